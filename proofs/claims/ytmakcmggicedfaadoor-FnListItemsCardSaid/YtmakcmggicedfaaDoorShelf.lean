/-
  DERIVED: THE SHELF's CONTRACTS AT THIS DUMP, IN PLAIN WORDS (tools/lay-plain.mjs out of 'YtmakcmggicedfaaDoorShelfT.lean', which tools/lay-shelf.mjs wrote): THE SAME DECLARATIONS UNDER THE SAME NAMES: 'import', 'namespace', 'open', 'def', 'theorem' AND NOTHING ELSE: no command of the shelf's: FOR A HAND-IN. Each laying: the table of numbers ('.._ren') and one theorem, a field a fact of the dump's own or the kernel's comparison; each contract: ONE APPLICATION.
-/
import Derived.Shelf.Strings.Builder1
import Derived.Shelf.Strings.Builder2
import Derived.Shelf.Strings.OnBuilder
import Derived.Shelf.Small.Utf8
import Derived.Shelf.Strings.BuilderF
import Derived.Shelf.Strings.BuilderK
import Derived.Shelf.Strings.BuilderRune
import Derived.Shelf.Utf8.AppendRune
import Derived.Shelf.Utf8.AppendRunePlain
import Derived.Shelf.Utf8.RuneCount
import Derived.Shelf.Strings.Builder2Cap
import Derived.Shelf.Strings.Prefix
import Derived.Shelf.Unicode.Latin
import Derived.Shelf.Unicode.Props
import Derived.Shelf.LaysM
import Derived.Shelf.Unicode.PropsLaid
import Derived.Shelf.Unicode.Decode
import Derived.Shelf.Strings.RuneCount
import Derived.Shelf.Bits.Mul64
import Derived.Shelf.Strings.Repeat
import Derived.Shelf.Unicode.DecodeSlow
import Derived.Shelf.Unicode.DecodeAny
import Derived.Shelf.Unicode.Is16White
import Derived.Shelf.Unicode.IsSpaceAny
import Derived.Shelf.Unicode.CaseLookup
import Derived.Shelf.Unicode.CaseConvert
import Derived.Shelf.Unicode.CaseTo
import Derived.Shelf.Unicode.CaseLaid
import Derived.Shelf.Unicode.Is16Any
import Derived.Shelf.Unicode.Is32Any
import Derived.Shelf.Unicode.ExclAny
import Derived.Shelf.Unicode.PredsAny
import Derived.Shelf.Strings.BuilderCap
import Derived.Test.YtmakcmggicedfaaDoorProg
namespace Go.Proofs
open Go.Shelf
def Tryd.lays170_ren : Go.Shelf.Ren := ⟨fun | 170 => 72 | n => n, fun | 70 => 70 | 3 => 3 | 0 => 0 | 72 => 73 | 37 => 71 | 5 => 5 | n => n, fun | n => n⟩
theorem Tryd.lays170 : Go.Proofs.Lays.n170 Tryd.prog Tryd.lays170_ren := {
  mixed := by kernel_rfl
  f170 := Tryd.func72.trans (congrArg some (by kernel_rfl))
  t0 := Tryd.underlying0
  a0 := Tryd.isAgg0
  z0 := Tryd.sizeOf0
  v0 := Tryd.zeroValue0
  t3 := Tryd.underlying3
  a3 := Tryd.isAgg3
  z3 := Tryd.sizeOf3
  v3 := Tryd.zeroValue3
  t37 := Tryd.underlying71
  a37 := Tryd.isAgg71
  z37 := Tryd.sizeOf71
  v37 := Tryd.zeroValue71
  t70 := Tryd.underlying70
  a70 := Tryd.isAgg70
  z70 := Tryd.sizeOf70
  v70 := Tryd.zeroValue70
  t72 := Tryd.underlying73
  a72 := Tryd.isAgg73
  z72 := Tryd.sizeOf73
  v72 := Tryd.zeroValue73 }
open Go.RowKit in
/-- (*strings.Builder).Len: "Len returns the number of accumulated bytes; b.Len() == len(b.String()).": the world is as it was. (LAID: no walk: one application.) -/
theorem Tryd.Builder_Len (B b : Nat) (bs : List Value) (w : World) (h : Lib.IsBuilder 73 5 B b bs w) :
    Calls Tryd.prog 72 #[.pointer (some ⟨b, 0, none⟩)] w fun e w' => e = .returned (.int .i64 bs.length) ∧ w' = w := Any.Builder_Len Tryd.lays170 B b bs w h
def Tryd.lays169_ren : Go.Shelf.Ren := ⟨fun | 169 => 67 | n => n, fun | 70 => 70 | 9 => 9 | 0 => 0 | 72 => 73 | 37 => 71 | 127 => 107 | 3 => 3 | 5 => 5 | n => n, fun | n => n⟩
theorem Tryd.lays169 : Go.Proofs.Lays.n169 Tryd.prog Tryd.lays169_ren := {
  mixed := by kernel_rfl
  f169 := Tryd.func67.trans (congrArg some (by kernel_rfl))
  t0 := Tryd.underlying0
  a0 := Tryd.isAgg0
  z0 := Tryd.sizeOf0
  v0 := Tryd.zeroValue0
  t3 := Tryd.underlying3
  a3 := Tryd.isAgg3
  z3 := Tryd.sizeOf3
  v3 := Tryd.zeroValue3
  t9 := Tryd.underlying9
  a9 := Tryd.isAgg9
  z9 := Tryd.sizeOf9
  v9 := Tryd.zeroValue9
  t37 := Tryd.underlying71
  a37 := Tryd.isAgg71
  z37 := Tryd.sizeOf71
  v37 := Tryd.zeroValue71
  t70 := Tryd.underlying70
  a70 := Tryd.isAgg70
  z70 := Tryd.sizeOf70
  v70 := Tryd.zeroValue70
  t72 := Tryd.underlying73
  a72 := Tryd.isAgg73
  z72 := Tryd.sizeOf73
  v72 := Tryd.zeroValue73
  t127 := Tryd.underlying107
  a127 := Tryd.isAgg107
  z127 := Tryd.sizeOf107
  v127 := Tryd.zeroValue107 }
theorem Tryd.Builder_Extra_169 : Builder.Extra Tryd.prog Tryd.lays169_ren := {
  sizeBuilder := by kernel_rfl
  liesBuilder := by kernel_rfl
  t5 := Tryd.underlying5
  a5 := Tryd.isAgg5
  z5 := Tryd.sizeOf5
  v5 := Tryd.zeroValue5
  infoByte := by kernel_rfl
  cellsByte := by kernel_rfl
  sizeByte := by kernel_rfl
  neB5 := by decide }
open Go.RowKit in
/-- (*strings.Builder).String: "String returns the accumulated string.": OF A BUILDER THAT HOLDS AT LEAST ONE BYTE. ✋ THE MODEL FREEZES THOSE BYTES IN THE BUFFER (unsafe.String): a later write INTO them ends the model's run without an answer; a later append BEHIND them goes on. The statement's order of evaluation is drawn: one draw. (LAID: no walk: one application.) -/
theorem Tryd.Builder_String (B b : Nat) (l : List UInt8) (w : World) (h : Lib.IsBuilder 73 5 B b (Lib.byteCells l) w) (h0 : l ≠ []) :
    Calls Tryd.prog 67 #[.pointer (some ⟨b, 0, none⟩)] w fun e w' => e = .returned (.string ⟨l.toArray⟩) ∧ Below B w w' := Any.Builder_String Tryd.lays169 Tryd.Builder_Extra_169 B b l w h h0
open Go.RowKit in
/-- (*strings.Builder).String OF A BUILDER THAT HOLDS NO BYTE: the empty string. (Its buffer is nil, or a row of which it has taken nothing yet; where that row has NO capacity the model lays one new block for unsafe.SliceData's 'some address'.) One draw. (LAID: no walk: one application.) -/
theorem Tryd.Builder_String_empty (B b : Nat) (w : World) (h : Lib.IsBuilder 73 5 B b [] w) (hBw : B ≤ w.heap.size) :
    Calls Tryd.prog 67 #[.pointer (some ⟨b, 0, none⟩)] w fun e w' => e = .returned (.string ⟨#[]⟩) ∧ Below B w w' := Any.Builder_String_empty Tryd.lays169 Tryd.Builder_Extra_169 B b w h hBw
open Go.RowKit in
/-- (*strings.Builder).String: "String returns the accumulated string.": WHATEVER THE BUILDER HOLDS. (LAID: no walk: one application.) -/
theorem Tryd.Builder_String_any (B b : Nat) (l : List UInt8) (w : World) (h : Lib.IsBuilder 73 5 B b (Lib.byteCells l) w) (hBw : B ≤ w.heap.size) :
    Calls Tryd.prog 67 #[.pointer (some ⟨b, 0, none⟩)] w fun e w' => e = .returned (.string ⟨l.toArray⟩) ∧ Below B w w' := Any.Builder_String_any Tryd.lays169 Tryd.Builder_Extra_169 B b l w h hBw
def Tryd.lays241_ren : Go.Shelf.Ren := ⟨fun | 241 => 58 | 277 => 74 | n => n, fun | 70 => 70 | 3 => 3 | 0 => 0 | 72 => 73 | 37 => 71 | 5 => 5 | n => n, fun | n => n⟩
theorem Tryd.lays241 : Go.Proofs.Lays.n241 Tryd.prog Tryd.lays241_ren := {
  mixed := by kernel_rfl
  f241 := Tryd.func58.trans (congrArg some (by kernel_rfl))
  f277 := Tryd.func74.trans (congrArg some (by kernel_rfl))
  t0 := Tryd.underlying0
  a0 := Tryd.isAgg0
  z0 := Tryd.sizeOf0
  v0 := Tryd.zeroValue0
  t3 := Tryd.underlying3
  a3 := Tryd.isAgg3
  z3 := Tryd.sizeOf3
  v3 := Tryd.zeroValue3
  t37 := Tryd.underlying71
  a37 := Tryd.isAgg71
  z37 := Tryd.sizeOf71
  v37 := Tryd.zeroValue71
  t70 := Tryd.underlying70
  a70 := Tryd.isAgg70
  z70 := Tryd.sizeOf70
  v70 := Tryd.zeroValue70
  t72 := Tryd.underlying73
  a72 := Tryd.isAgg73
  z72 := Tryd.sizeOf73
  v72 := Tryd.zeroValue73 }
theorem Tryd.Builder_Extra_241 : Builder.Extra Tryd.prog Tryd.lays241_ren := {
  sizeBuilder := by kernel_rfl
  liesBuilder := by kernel_rfl
  t5 := Tryd.underlying5
  a5 := Tryd.isAgg5
  z5 := Tryd.sizeOf5
  v5 := Tryd.zeroValue5
  infoByte := by kernel_rfl
  cellsByte := by kernel_rfl
  sizeByte := by kernel_rfl
  neB5 := by decide }
open Go.RowKit in
/-- (*strings.Builder).grow (no doc but "grow copies the buffer to a new, larger buffer so that there are at least n bytes of capacity beyond len(b.buf)."): AT A BUILDER WITHOUT A BUFFER: a new row of whatever bytes for its buffer, none of them its own yet. Three draws. (LAID: no walk: one application.) -/
theorem Tryd.Builder_grow_fresh (B b n : Nat) (w : World) (hB : B ≤ b) (hbk : w.heap[b]? = some (.cells #[.pointer (some ⟨b, 0, none⟩), .slice none 0 0] 73 (0, 0))) (hBw : B ≤ w.heap.size) (hn : n ≤ 281474976710656) :
    Calls Tryd.prog 58 #[.pointer (some ⟨b, 0, none⟩), .int .i64 n] w fun e w' => e = .returned (.tuple #[]) ∧ (Lib.BuilderAt 73 5 B b (.pointer (some ⟨b, 0, none⟩)) [] w' ∧ Below B w w') := Any.Builder_grow_fresh Tryd.lays241 Tryd.Builder_Extra_241 B b n w hB hbk hBw hn
def Tryd.lays165_ren : Go.Shelf.Ren := ⟨fun | 165 => 48 | 240 => 57 | 241 => 58 | 276 => 73 | 277 => 74 | n => n, fun | 70 => 70 | 3 => 3 | 0 => 0 | 4 => 4 | 9 => 9 | 20 => 20 | 72 => 73 | 37 => 71 | 164 => 101 | 5 => 5 | n => n, fun | n => n⟩
theorem Tryd.lays165 : Go.Proofs.Lays.n165 Tryd.prog Tryd.lays165_ren := {
  mixed := by kernel_rfl
  f165 := Tryd.func48.trans (congrArg some (by kernel_rfl))
  f240 := Tryd.func57.trans (congrArg some (by kernel_rfl))
  f241 := Tryd.func58.trans (congrArg some (by kernel_rfl))
  f276 := Tryd.func73.trans (congrArg some (by kernel_rfl))
  f277 := Tryd.func74.trans (congrArg some (by kernel_rfl))
  t0 := Tryd.underlying0
  a0 := Tryd.isAgg0
  z0 := Tryd.sizeOf0
  v0 := Tryd.zeroValue0
  t3 := Tryd.underlying3
  a3 := Tryd.isAgg3
  z3 := Tryd.sizeOf3
  v3 := Tryd.zeroValue3
  t4 := Tryd.underlying4
  a4 := Tryd.isAgg4
  z4 := Tryd.sizeOf4
  v4 := Tryd.zeroValue4
  t9 := Tryd.underlying9
  a9 := Tryd.isAgg9
  z9 := Tryd.sizeOf9
  v9 := Tryd.zeroValue9
  t20 := Tryd.underlying20
  a20 := Tryd.isAgg20
  z20 := Tryd.sizeOf20
  v20 := Tryd.zeroValue20
  t37 := Tryd.underlying71
  a37 := Tryd.isAgg71
  z37 := Tryd.sizeOf71
  v37 := Tryd.zeroValue71
  t70 := Tryd.underlying70
  a70 := Tryd.isAgg70
  z70 := Tryd.sizeOf70
  v70 := Tryd.zeroValue70
  t72 := Tryd.underlying73
  a72 := Tryd.isAgg73
  z72 := Tryd.sizeOf73
  v72 := Tryd.zeroValue73
  t164 := Tryd.underlying101
  a164 := Tryd.isAgg101
  z164 := Tryd.sizeOf101
  v164 := Tryd.zeroValue101 }
theorem Tryd.Builder_Extra_165 : Builder.Extra Tryd.prog Tryd.lays165_ren := {
  sizeBuilder := by kernel_rfl
  liesBuilder := by kernel_rfl
  t5 := Tryd.underlying5
  a5 := Tryd.isAgg5
  z5 := Tryd.sizeOf5
  v5 := Tryd.zeroValue5
  infoByte := by kernel_rfl
  cellsByte := by kernel_rfl
  sizeByte := by kernel_rfl
  neB5 := by decide }
open Go.RowKit in
/-- (*strings.Builder).Grow AT A BUILDER THAT HAS NOT BEEN WRITTEN ('var b strings.Builder; b.Grow(n)'): "Grow grows b's capacity, if necessary, to guarantee space for another n bytes.": it holds no byte behind it as before it. (LAID: no walk: one application.) -/
theorem Tryd.Builder_Grow_fresh (B b n : Nat) (w : World) (hB : B ≤ b) (hbk : w.heap[b]? = some (.cells #[.pointer none, .slice none 0 0] 73 (0, 0))) (hBw : B ≤ w.heap.size) (hn : n ≤ 281474976710656) :
    Calls Tryd.prog 48 #[.pointer (some ⟨b, 0, none⟩), .int .i64 n] w fun e w' => e = .returned (.tuple #[]) ∧ (Lib.BuilderAt 73 5 B b (.pointer (some ⟨b, 0, none⟩)) [] w' ∧ Below B w w') := Any.Builder_Grow_fresh Tryd.lays165 Tryd.Builder_Extra_165 B b n w hB hbk hBw hn
def Tryd.lays159_ren : Go.Shelf.Ren := ⟨fun | 159 => 76 | 165 => 48 | 166 => 66 | 167 => 90 | 169 => 67 | 230 => 91 | 204 => 92 | 240 => 57 | 241 => 58 | 197 => 99 | 118 => 100 | 168 => 59 | 270 => 101 | 262 => 102 | 276 => 73 | 277 => 74 | 260 => 107 | 242 => 75 | 313 => 108 | 278 => 89 | 274 => 110 | 275 => 111 | n => n, fun | 9 => 9 | 4 => 4 | 3 => 3 | 5 => 5 | 72 => 73 | 0 => 0 | 76 => 88 | 75 => 87 | 107 => 119 | 70 => 70 | 20 => 20 | 37 => 71 | 127 => 107 | 21 => 21 | 105 => 121 | 164 => 101 | 162 => 128 | 203 => 126 | 119 => 129 | 46 => 98 | 139 => 135 | 138 => 134 | 51 => 111 | 160 => 136 | 208 => 153 | 206 => 151 | 80 => 56 | n => n, fun | 13 => 1 | 3 => 6 | 4 => 7 | n => n⟩
theorem Tryd.lays159 : Go.Proofs.Lays.n159 Tryd.prog Tryd.lays159_ren := {
  mixed := by kernel_rfl
  f118 := Tryd.func100.trans (congrArg some (by kernel_rfl))
  f159 := Tryd.func76.trans (congrArg some (by kernel_rfl))
  f165 := Tryd.func48.trans (congrArg some (by kernel_rfl))
  f166 := Tryd.func66.trans (congrArg some (by kernel_rfl))
  f167 := Tryd.func90.trans (congrArg some (by kernel_rfl))
  f168 := Tryd.func59.trans (congrArg some (by kernel_rfl))
  f169 := Tryd.func67.trans (congrArg some (by kernel_rfl))
  f197 := Tryd.func99.trans (congrArg some (by kernel_rfl))
  f204 := Tryd.func92.trans (congrArg some (by kernel_rfl))
  f230 := Tryd.func91.trans (congrArg some (by kernel_rfl))
  f240 := Tryd.func57.trans (congrArg some (by kernel_rfl))
  f241 := Tryd.func58.trans (congrArg some (by kernel_rfl))
  f242 := Tryd.func75.trans (congrArg some (by kernel_rfl))
  f260 := Tryd.func107.trans (congrArg some (by kernel_rfl))
  f262 := Tryd.func102.trans (congrArg some (by kernel_rfl))
  f270 := Tryd.func101.trans (congrArg some (by kernel_rfl))
  f274 := Tryd.func110.trans (congrArg some (by kernel_rfl))
  f275 := Tryd.func111.trans (congrArg some (by kernel_rfl))
  f276 := Tryd.func73.trans (congrArg some (by kernel_rfl))
  f277 := Tryd.func74.trans (congrArg some (by kernel_rfl))
  f278 := Tryd.func89.trans (congrArg some (by kernel_rfl))
  f313 := Tryd.func108.trans (congrArg some (by kernel_rfl))
  t0 := Tryd.underlying0
  a0 := Tryd.isAgg0
  z0 := Tryd.sizeOf0
  v0 := Tryd.zeroValue0
  t3 := Tryd.underlying3
  a3 := Tryd.isAgg3
  z3 := Tryd.sizeOf3
  v3 := Tryd.zeroValue3
  t4 := Tryd.underlying4
  a4 := Tryd.isAgg4
  z4 := Tryd.sizeOf4
  v4 := Tryd.zeroValue4
  t5 := Tryd.underlying5
  a5 := Tryd.isAgg5
  z5 := Tryd.sizeOf5
  v5 := Tryd.zeroValue5
  t9 := Tryd.underlying9
  a9 := Tryd.isAgg9
  z9 := Tryd.sizeOf9
  v9 := Tryd.zeroValue9
  t20 := Tryd.underlying20
  a20 := Tryd.isAgg20
  z20 := Tryd.sizeOf20
  v20 := Tryd.zeroValue20
  t21 := Tryd.underlying21
  a21 := Tryd.isAgg21
  z21 := Tryd.sizeOf21
  v21 := Tryd.zeroValue21
  t37 := Tryd.underlying71
  a37 := Tryd.isAgg71
  z37 := Tryd.sizeOf71
  v37 := Tryd.zeroValue71
  t46 := Tryd.underlying98
  a46 := Tryd.isAgg98
  z46 := Tryd.sizeOf98
  v46 := Tryd.zeroValue98
  t51 := Tryd.underlying111
  a51 := Tryd.isAgg111
  z51 := Tryd.sizeOf111
  v51 := Tryd.zeroValue111
  t70 := Tryd.underlying70
  a70 := Tryd.isAgg70
  z70 := Tryd.sizeOf70
  v70 := Tryd.zeroValue70
  t72 := Tryd.underlying73
  a72 := Tryd.isAgg73
  z72 := Tryd.sizeOf73
  v72 := Tryd.zeroValue73
  t75 := Tryd.underlying87
  a75 := Tryd.isAgg87
  z75 := Tryd.sizeOf87
  v75 := Tryd.zeroValue87
  t76 := Tryd.underlying88
  a76 := Tryd.isAgg88
  z76 := Tryd.sizeOf88
  v76 := Tryd.zeroValue88
  t105 := Tryd.underlying121
  a105 := Tryd.isAgg121
  z105 := Tryd.sizeOf121
  v105 := Tryd.zeroValue121
  t107 := Tryd.underlying119
  a107 := Tryd.isAgg119
  z107 := Tryd.sizeOf119
  v107 := Tryd.zeroValue119
  t119 := Tryd.underlying129
  a119 := Tryd.isAgg129
  z119 := Tryd.sizeOf129
  t127 := Tryd.underlying107
  a127 := Tryd.isAgg107
  z127 := Tryd.sizeOf107
  v127 := Tryd.zeroValue107
  t138 := Tryd.underlying134
  a138 := Tryd.isAgg134
  z138 := Tryd.sizeOf134
  v138 := Tryd.zeroValue134
  t139 := Tryd.underlying135
  a139 := Tryd.isAgg135
  z139 := Tryd.sizeOf135
  v139 := Tryd.zeroValue135
  t160 := Tryd.underlying136
  a160 := Tryd.isAgg136
  z160 := Tryd.sizeOf136
  v160 := Tryd.zeroValue136
  t162 := Tryd.underlying128
  a162 := Tryd.isAgg128
  z162 := Tryd.sizeOf128
  v162 := Tryd.zeroValue128
  t164 := Tryd.underlying101
  a164 := Tryd.isAgg101
  z164 := Tryd.sizeOf101
  v164 := Tryd.zeroValue101
  t203 := Tryd.underlying126
  a203 := Tryd.isAgg126
  z203 := Tryd.sizeOf126
  v203 := Tryd.zeroValue126
  t206 := Tryd.underlying151
  a206 := Tryd.isAgg151
  z206 := Tryd.sizeOf151
  v206 := Tryd.zeroValue151
  t208 := Tryd.underlying153
  a208 := Tryd.isAgg153
  z208 := Tryd.sizeOf153
  v208 := Tryd.zeroValue153
  g3 := by kernel_rfl
  g4 := by kernel_rfl
  g13 := by kernel_rfl }
theorem Tryd.Builder_Extra_159 : Builder.Extra Tryd.prog Tryd.lays159_ren := {
  sizeBuilder := by kernel_rfl
  liesBuilder := by kernel_rfl
  t5 := Tryd.underlying5
  a5 := Tryd.isAgg5
  z5 := Tryd.sizeOf5
  v5 := Tryd.zeroValue5
  infoByte := by kernel_rfl
  cellsByte := by kernel_rfl
  sizeByte := by kernel_rfl
  neB5 := by decide }
open Go.RowKit in
/-- strings.ToLower: "ToLower returns s with all Unicode letters mapped to their lower case.": ON ASCII TEXT OF AT MOST 2^47 BYTES. Below the heap's end the world is as it was: where a letter turns, the call makes a builder and its buffer. (LAID: no walk: one application.) -/
theorem Tryd.strings_ToLower_ascii (s : ByteArray) (w : World) (hs : s.size ≤ 140737488355328) (hascii : ∀ (j : Nat) (b : UInt8), s.data.toList[j]? = some b → b.toNat < 128) :
    Calls Tryd.prog 76 #[.string s] w fun e w' => e = .returned (.string ⟨(Lib.toLowerA s.data.toList).toArray⟩) ∧ Below w.heap.size w w' := Any.strings_ToLower_ascii Tryd.lays159 Tryd.Builder_Extra_159 s w hs hascii
def Tryd.lays156_ren : Go.Shelf.Ren := ⟨fun | 156 => 85 | 165 => 48 | 166 => 66 | 169 => 67 | 240 => 57 | 241 => 58 | 276 => 73 | 277 => 74 | n => n, fun | 31 => 27 | 9 => 9 | 3 => 3 | 4 => 4 | 0 => 0 | 20 => 20 | 72 => 73 | 76 => 88 | 70 => 70 | 37 => 71 | 75 => 87 | 127 => 107 | 164 => 101 | 5 => 5 | 80 => 56 | n => n, fun | n => n⟩
theorem Tryd.lays156 : Go.Proofs.Lays.n156 Tryd.prog Tryd.lays156_ren := {
  mixed := by kernel_rfl
  f156 := Tryd.func85.trans (congrArg some (by kernel_rfl))
  f165 := Tryd.func48.trans (congrArg some (by kernel_rfl))
  f166 := Tryd.func66.trans (congrArg some (by kernel_rfl))
  f169 := Tryd.func67.trans (congrArg some (by kernel_rfl))
  f240 := Tryd.func57.trans (congrArg some (by kernel_rfl))
  f241 := Tryd.func58.trans (congrArg some (by kernel_rfl))
  f276 := Tryd.func73.trans (congrArg some (by kernel_rfl))
  f277 := Tryd.func74.trans (congrArg some (by kernel_rfl))
  t0 := Tryd.underlying0
  a0 := Tryd.isAgg0
  z0 := Tryd.sizeOf0
  v0 := Tryd.zeroValue0
  t3 := Tryd.underlying3
  a3 := Tryd.isAgg3
  z3 := Tryd.sizeOf3
  v3 := Tryd.zeroValue3
  t4 := Tryd.underlying4
  a4 := Tryd.isAgg4
  z4 := Tryd.sizeOf4
  v4 := Tryd.zeroValue4
  t9 := Tryd.underlying9
  a9 := Tryd.isAgg9
  z9 := Tryd.sizeOf9
  v9 := Tryd.zeroValue9
  t20 := Tryd.underlying20
  a20 := Tryd.isAgg20
  z20 := Tryd.sizeOf20
  v20 := Tryd.zeroValue20
  t31 := Tryd.underlying27
  a31 := Tryd.isAgg27
  z31 := Tryd.sizeOf27
  v31 := Tryd.zeroValue27
  t37 := Tryd.underlying71
  a37 := Tryd.isAgg71
  z37 := Tryd.sizeOf71
  v37 := Tryd.zeroValue71
  t70 := Tryd.underlying70
  a70 := Tryd.isAgg70
  z70 := Tryd.sizeOf70
  v70 := Tryd.zeroValue70
  t72 := Tryd.underlying73
  a72 := Tryd.isAgg73
  z72 := Tryd.sizeOf73
  v72 := Tryd.zeroValue73
  t75 := Tryd.underlying87
  a75 := Tryd.isAgg87
  z75 := Tryd.sizeOf87
  v75 := Tryd.zeroValue87
  t76 := Tryd.underlying88
  a76 := Tryd.isAgg88
  z76 := Tryd.sizeOf88
  v76 := Tryd.zeroValue88
  t127 := Tryd.underlying107
  a127 := Tryd.isAgg107
  z127 := Tryd.sizeOf107
  v127 := Tryd.zeroValue107
  t164 := Tryd.underlying101
  a164 := Tryd.isAgg101
  z164 := Tryd.sizeOf101
  v164 := Tryd.zeroValue101 }
theorem Tryd.Builder_Extra_156 : Builder.Extra Tryd.prog Tryd.lays156_ren := {
  sizeBuilder := by kernel_rfl
  liesBuilder := by kernel_rfl
  t5 := Tryd.underlying5
  a5 := Tryd.isAgg5
  z5 := Tryd.sizeOf5
  v5 := Tryd.zeroValue5
  infoByte := by kernel_rfl
  cellsByte := by kernel_rfl
  sizeByte := by kernel_rfl
  neB5 := by decide }
open Go.RowKit in
/-- No element: the empty string; the world is as it was. (Whatever the slice's address and capacity: a nil slice too.) (LAID: no walk: one application.) -/
theorem Tryd.strings_Join_none (a : Option Addr) (c : Nat) (sep : ByteArray) (w : World) :
    Calls Tryd.prog 85 #[.slice a 0 c, .string sep] w fun e w' => e = .returned (.string ⟨#[]⟩) ∧ w' = w := Any.strings_Join_none Tryd.lays156 Tryd.Builder_Extra_156 a c sep w
open Go.RowKit in
/-- strings.Join: "Join concatenates the elements of its first argument to create a single string. The separator string sep is placed between elements in the resulting string.": HOWEVER MANY ELEMENTS. Below the heap's end the world is as it was. (LAID: no walk: one application.) -/
theorem Tryd.strings_Join (bk o c : Nat) (xs : List ByteArray) (sep : ByteArray) (w : World) (hcells : ∀ (j : Nat) x, xs[j]? = some x → w.cell? ⟨bk, o + j, none⟩ = some (.string x)) (hbk : bk < w.heap.size) (hN : xs.length ≤ 140737488355328) (hcap : xs.length ≤ c) (hlen : (Lib.join (xs.map (·.data.toList)) sep.data.toList).length ≤ 140737488355328) :
    Calls Tryd.prog 85 #[.slice (some ⟨bk, o, none⟩) xs.length c, .string sep] w fun e w' => e = .returned (.string ⟨(Lib.join (xs.map (·.data.toList)) sep.data.toList).toArray⟩) ∧ Below w.heap.size w w' := Any.strings_Join Tryd.lays156 Tryd.Builder_Extra_156 bk o c xs sep w hcells hbk hN hcap hlen
def Tryd.lays118_ren : Go.Shelf.Ren := ⟨fun | 118 => 100 | n => n, fun | 21 => 21 | 3 => 3 | 4 => 4 | n => n, fun | n => n⟩
theorem Tryd.lays118 : Go.Proofs.Lays.n118 Tryd.prog Tryd.lays118_ren := {
  mixed := by kernel_rfl
  f118 := Tryd.func100.trans (congrArg some (by kernel_rfl))
  t3 := Tryd.underlying3
  a3 := Tryd.isAgg3
  z3 := Tryd.sizeOf3
  v3 := Tryd.zeroValue3
  t4 := Tryd.underlying4
  a4 := Tryd.isAgg4
  z4 := Tryd.sizeOf4
  v4 := Tryd.zeroValue4
  t21 := Tryd.underlying21
  a21 := Tryd.isAgg21
  z21 := Tryd.sizeOf21
  v21 := Tryd.zeroValue21 }
/-- utf8.RuneLen: "RuneLen returns the number of bytes in the UTF-8 encoding of the rune. It returns -1 if the rune is not a valid value to encode in UTF-8.": IT RETURNS 'Lib.runeLen r'; the world is as it was. (LAID: no walk: one application.) -/
theorem Tryd.utf8_RuneLen (r : Int) (w : World) :
    Calls Tryd.prog 100 #[.int .i32 r] w fun e w' => e = .returned (.int .i64 (Lib.runeLen r)) ∧ w' = w := Any.utf8_RuneLen Tryd.lays118 r w
open Go.RowKit in
/-- (*strings.Builder).Len: "Len returns the number of accumulated bytes; b.Len() == len(b.String()).": the world is as it was. (THE FORM '_f': 'Lib.IsBuilderF'.) (LAID: no walk: one application.) -/
theorem Tryd.Builder_Len_f (B b : Nat) (bs : List Value) (w : World) (h : Lib.IsBuilderF 73 5 B b bs w) :
    Calls Tryd.prog 72 #[.pointer (some ⟨b, 0, none⟩)] w fun e w' => e = .returned (.int .i64 bs.length) ∧ w' = w := Any.Builder_Len_f Tryd.lays170 B b bs w h
open Go.RowKit in
/-- (*strings.Builder).String: "String returns the accumulated string.": OF A BUILDER THAT HOLDS AT LEAST ONE BYTE. ✋ THE MODEL FREEZES THOSE BYTES IN THE BUFFER (unsafe.String): a later write INTO them ends the model's run without an answer; a later append BEHIND them goes on. The statement's order of evaluation is drawn: one draw. THE FORM '_f': IT SAYS BESIDES THAT THE BUILDER IS A BUILDER STILL ('Lib.IsBuilderF', the same bytes): SO IT CAN BE WRITTEN ON: 'b.WriteString(b.String()[:k])'. (LAID: no walk: one application.) -/
theorem Tryd.Builder_String_f (B b : Nat) (l : List UInt8) (w : World) (h : Lib.IsBuilderF 73 5 B b (Lib.byteCells l) w) (h0 : l ≠ []) :
    Calls Tryd.prog 67 #[.pointer (some ⟨b, 0, none⟩)] w fun e w' => e = .returned (.string ⟨l.toArray⟩) ∧ (Lib.IsBuilderF 73 5 B b (Lib.byteCells l) w' ∧ Below B w w') := Any.Builder_String_f Tryd.lays169 Tryd.Builder_Extra_169 B b l w h h0
open Go.RowKit in
/-- (*strings.Builder).String OF A BUILDER THAT HOLDS NO BYTE: the empty string; THE FORM '_f': a builder still. (LAID: no walk: one application.) -/
theorem Tryd.Builder_String_empty_f (B b : Nat) (w : World) (h : Lib.IsBuilderF 73 5 B b [] w) (hBw : B ≤ w.heap.size) :
    Calls Tryd.prog 67 #[.pointer (some ⟨b, 0, none⟩)] w fun e w' => e = .returned (.string ⟨#[]⟩) ∧ (Lib.IsBuilderF 73 5 B b [] w' ∧ Below B w w') := Any.Builder_String_empty_f Tryd.lays169 Tryd.Builder_Extra_169 B b w h hBw
open Go.RowKit in
/-- (*strings.Builder).String: "String returns the accumulated string.": WHATEVER THE BUILDER HOLDS; THE FORM '_f': OF A BUILDER THAT MAY HAVE BEEN READ BEFORE; AND IT IS A BUILDER STILL, holding the same bytes: it can be written on. (LAID: no walk: one application.) -/
theorem Tryd.Builder_String_any_f (B b : Nat) (l : List UInt8) (w : World) (h : Lib.IsBuilderF 73 5 B b (Lib.byteCells l) w) (hBw : B ≤ w.heap.size) :
    Calls Tryd.prog 67 #[.pointer (some ⟨b, 0, none⟩)] w fun e w' => e = .returned (.string ⟨l.toArray⟩) ∧ (Lib.IsBuilderF 73 5 B b (Lib.byteCells l) w' ∧ Below B w w') := Any.Builder_String_any_f Tryd.lays169 Tryd.Builder_Extra_169 B b l w h hBw
open Go.RowKit in
/-- (*strings.Builder).String: "String returns the accumulated string.": OF A BUILDER THAT HOLDS AT LEAST ONE BYTE. ✋ THE MODEL FREEZES THOSE BYTES IN THE BUFFER (unsafe.String): a later write INTO them ends the model's run without an answer; a later append BEHIND them goes on. The statement's order of evaluation is drawn: one draw. THE FORM '_k': OVER 'Lib.IsBuilderF' (a builder that 'String()' may have read), AND WITH THE FRAME THAT REACHES ABOVE THE BUILDER: 'Lib.OthersKept': every block that is not b and is no row of uint8's stands as it stood: the iterator of a range among them. (LAID: no walk: one application.) -/
theorem Tryd.Builder_String_k (B b : Nat) (l : List UInt8) (w : World) (h : Lib.IsBuilderF 73 5 B b (Lib.byteCells l) w) (h0 : l ≠ []) :
    Calls Tryd.prog 67 #[.pointer (some ⟨b, 0, none⟩)] w fun e w' => e = .returned (.string ⟨l.toArray⟩) ∧ (Lib.IsBuilderF 73 5 B b (Lib.byteCells l) w' ∧ Below B w w' ∧ Lib.OthersKept 5 (some b) w w') := Any.Builder_String_k Tryd.lays169 Tryd.Builder_Extra_169 B b l w h h0
open Go.RowKit in
/-- (*strings.Builder).String OF A BUILDER THAT HOLDS NO BYTE: the empty string; THE FORM '_k': OVER 'Lib.IsBuilderF' (a builder that 'String()' may have read), AND WITH THE FRAME THAT REACHES ABOVE THE BUILDER: 'Lib.OthersKept': every block that is not b and is no row of uint8's stands as it stood: the iterator of a range among them. (LAID: no walk: one application.) -/
theorem Tryd.Builder_String_empty_k (B b : Nat) (w : World) (h : Lib.IsBuilderF 73 5 B b [] w) (hBw : B ≤ w.heap.size) :
    Calls Tryd.prog 67 #[.pointer (some ⟨b, 0, none⟩)] w fun e w' => e = .returned (.string ⟨#[]⟩) ∧ (Lib.IsBuilderF 73 5 B b [] w' ∧ Below B w w' ∧ Lib.OthersKept 5 (some b) w w') := Any.Builder_String_empty_k Tryd.lays169 Tryd.Builder_Extra_169 B b w h hBw
open Go.RowKit in
/-- (*strings.Builder).String: "String returns the accumulated string.": WHATEVER THE BUILDER HOLDS; THE FORM '_k': OVER 'Lib.IsBuilderF' (a builder that 'String()' may have read), AND WITH THE FRAME THAT REACHES ABOVE THE BUILDER: 'Lib.OthersKept': every block that is not b and is no row of uint8's stands as it stood: the iterator of a range among them. (LAID: no walk: one application.) -/
theorem Tryd.Builder_String_any_k (B b : Nat) (l : List UInt8) (w : World) (h : Lib.IsBuilderF 73 5 B b (Lib.byteCells l) w) (hBw : B ≤ w.heap.size) :
    Calls Tryd.prog 67 #[.pointer (some ⟨b, 0, none⟩)] w fun e w' => e = .returned (.string ⟨l.toArray⟩) ∧ (Lib.IsBuilderF 73 5 B b (Lib.byteCells l) w' ∧ Below B w w' ∧ Lib.OthersKept 5 (some b) w w') := Any.Builder_String_any_k Tryd.lays169 Tryd.Builder_Extra_169 B b l w h hBw
def Tryd.lays278_ren : Go.Shelf.Ren := ⟨fun | 278 => 89 | n => n, fun | 37 => 71 | 21 => 21 | 51 => 111 | 4 => 4 | 46 => 98 | 5 => 5 | n => n, fun | n => n⟩
theorem Tryd.lays278 : Go.Proofs.Lays.n278 Tryd.prog Tryd.lays278_ren := {
  mixed := by kernel_rfl
  f278 := Tryd.func89.trans (congrArg some (by kernel_rfl))
  t4 := Tryd.underlying4
  a4 := Tryd.isAgg4
  z4 := Tryd.sizeOf4
  v4 := Tryd.zeroValue4
  t5 := Tryd.underlying5
  a5 := Tryd.isAgg5
  z5 := Tryd.sizeOf5
  v5 := Tryd.zeroValue5
  t21 := Tryd.underlying21
  a21 := Tryd.isAgg21
  z21 := Tryd.sizeOf21
  v21 := Tryd.zeroValue21
  t37 := Tryd.underlying71
  a37 := Tryd.isAgg71
  z37 := Tryd.sizeOf71
  v37 := Tryd.zeroValue71
  t46 := Tryd.underlying98
  a46 := Tryd.isAgg98
  z46 := Tryd.sizeOf98
  v46 := Tryd.zeroValue98
  t51 := Tryd.underlying111
  a51 := Tryd.isAgg111
  z51 := Tryd.sizeOf111
  v51 := Tryd.zeroValue111 }
open Go.RowKit in
/-- unicode/utf8.appendRuneNonASCII (what AppendRune calls for all but ASCII), ONTO A ROW OF BYTES THAT THE CALL OWNS: every int32 that is no ASCII rune: 'Lib.runeCells r' goes in behind what the row holds. (LAID: no walk: one application.) -/
theorem Tryd.utf8_appendRuneNonASCII_row (B : Nat) (v : Value) (n : Nat) (xs : List Value) (r : Int) (hr0 : -2147483648 ≤ r) (hr1 : r ≤ 2147483647) (hna : r < 0 ∨ 128 ≤ r) (w : World) (hown : w.ownsRowF B 5 1 v n xs) (hlen : n + 4 ≤ 140737488355328) (hBw : B ≤ w.heap.size) :
    Calls Tryd.prog 89 #[v, .int .i32 r] w fun e w' => ∃ v', e = .returned v' ∧ w'.ownsRowF B 5 1 v' (n + (Lib.runeCells r).length) (xs ++ Lib.runeCells r) ∧ ∃ o, (w.alloc o).grownBy w' v.ownBlock := Any.utf8_appendRuneNonASCII_row Tryd.lays278 (by kernel_rfl) B v n xs r hr0 hr1 hna w hown hlen hBw
def Tryd.lays242_ren : Go.Shelf.Ren := ⟨fun | 242 => 75 | 278 => 89 | n => n, fun | 37 => 71 | 21 => 21 | 51 => 111 | 4 => 4 | 5 => 5 | 46 => 98 | n => n, fun | n => n⟩
theorem Tryd.lays242 : Go.Proofs.Lays.n242 Tryd.prog Tryd.lays242_ren := {
  mixed := by kernel_rfl
  f242 := Tryd.func75.trans (congrArg some (by kernel_rfl))
  f278 := Tryd.func89.trans (congrArg some (by kernel_rfl))
  t4 := Tryd.underlying4
  a4 := Tryd.isAgg4
  z4 := Tryd.sizeOf4
  v4 := Tryd.zeroValue4
  t5 := Tryd.underlying5
  a5 := Tryd.isAgg5
  z5 := Tryd.sizeOf5
  v5 := Tryd.zeroValue5
  t21 := Tryd.underlying21
  a21 := Tryd.isAgg21
  z21 := Tryd.sizeOf21
  v21 := Tryd.zeroValue21
  t37 := Tryd.underlying71
  a37 := Tryd.isAgg71
  z37 := Tryd.sizeOf71
  v37 := Tryd.zeroValue71
  t46 := Tryd.underlying98
  a46 := Tryd.isAgg98
  z46 := Tryd.sizeOf98
  v46 := Tryd.zeroValue98
  t51 := Tryd.underlying111
  a51 := Tryd.isAgg111
  z51 := Tryd.sizeOf111
  v51 := Tryd.zeroValue111 }
open Go.RowKit in
/-- unicode/utf8.AppendRune: "AppendRune appends the UTF-8 encoding of r to the end of p and returns the extended buffer. If the rune is out of range, it appends the encoding of RuneError.": ONTO A ROW OF BYTES THAT THE CALL OWNS (its head frozen or not): EVERY int32: 'Lib.runeCells r' goes in behind what the row holds; the world: one new block (the bytes as the call's variadic argument), then what 'append' does to the row. (LAID: no walk: one application.) -/
theorem Tryd.utf8_AppendRune_row (B : Nat) (v : Value) (n : Nat) (xs : List Value) (r : Int) (hr0 : -2147483648 ≤ r) (hr1 : r ≤ 2147483647) (w : World) (hown : w.ownsRowF B 5 1 v n xs) (hlen : n + 4 ≤ 140737488355328) (hBw : B ≤ w.heap.size) :
    Calls Tryd.prog 75 #[v, .int .i32 r] w fun e w' => ∃ v', e = .returned v' ∧ w'.ownsRowF B 5 1 v' (n + (Lib.runeCells r).length) (xs ++ Lib.runeCells r) ∧ ∃ o, (w.alloc o).grownBy w' v.ownBlock := Any.utf8_AppendRune_row Tryd.lays242 (by kernel_rfl) B v n xs r hr0 hr1 w hown hlen hBw
open Go.RowKit in
/-- unicode/utf8.appendRuneNonASCII (what AppendRune calls for all but ASCII), ONTO A ROW OF BYTES THAT THE CALL OWNS: every int32 that is no ASCII rune: 'Lib.runeCells r' goes in behind what the row holds. (LAID: no walk: one application.) -/
theorem Tryd.utf8_appendRuneNonASCII_plain (B : Nat) (v : Value) (n : Nat) (xs : List Value) (r : Int) (hr0 : -2147483648 ≤ r) (hr1 : r ≤ 2147483647) (hna : r < 0 ∨ 128 ≤ r) (w : World) (hown : w.ownsRow B 5 1 v n xs) (hlen : n + 4 ≤ 140737488355328) (hBw : B ≤ w.heap.size) :
    Calls Tryd.prog 89 #[v, .int .i32 r] w fun e w' => ∃ v', e = .returned v' ∧ w'.ownsRow B 5 1 v' (n + (Lib.runeCells r).length) (xs ++ Lib.runeCells r) ∧ ∃ o, (w.alloc o).grownBy w' v.ownBlock := Any.utf8_appendRuneNonASCII_plain Tryd.lays278 (by kernel_rfl) B v n xs r hr0 hr1 hna w hown hlen hBw
open Go.RowKit in
/-- unicode/utf8.AppendRune: "AppendRune appends the UTF-8 encoding of r to the end of p and returns the extended buffer. If the rune is out of range, it appends the encoding of RuneError.": ONTO A ROW OF BYTES THAT THE CALL OWNS (its head frozen or not): EVERY int32: 'Lib.runeCells r' goes in behind what the row holds; the world: one new block (the bytes as the call's variadic argument), then what 'append' does to the row. (LAID: no walk: one application.) -/
theorem Tryd.utf8_AppendRune_plain (B : Nat) (v : Value) (n : Nat) (xs : List Value) (r : Int) (hr0 : -2147483648 ≤ r) (hr1 : r ≤ 2147483647) (w : World) (hown : w.ownsRow B 5 1 v n xs) (hlen : n + 4 ≤ 140737488355328) (hBw : B ≤ w.heap.size) :
    Calls Tryd.prog 75 #[v, .int .i32 r] w fun e w' => ∃ v', e = .returned v' ∧ w'.ownsRow B 5 1 v' (n + (Lib.runeCells r).length) (xs ++ Lib.runeCells r) ∧ ∃ o, (w.alloc o).grownBy w' v.ownBlock := Any.utf8_AppendRune_plain Tryd.lays242 (by kernel_rfl) B v n xs r hr0 hr1 w hown hlen hBw
def Tryd.lays195_ren : Go.Shelf.Ren := ⟨fun | 195 => 56 | n => n, fun | 9 => 9 | 3 => 3 | 0 => 0 | 4 => 4 | n => n, fun | n => n⟩
theorem Tryd.lays195 : Go.Proofs.Lays.n195 Tryd.prog Tryd.lays195_ren := {
  mixed := by kernel_rfl
  f195 := Tryd.func56.trans (congrArg some (by kernel_rfl))
  t0 := Tryd.underlying0
  a0 := Tryd.isAgg0
  z0 := Tryd.sizeOf0
  v0 := Tryd.zeroValue0
  t3 := Tryd.underlying3
  a3 := Tryd.isAgg3
  z3 := Tryd.sizeOf3
  v3 := Tryd.zeroValue3
  t4 := Tryd.underlying4
  a4 := Tryd.isAgg4
  z4 := Tryd.sizeOf4
  v4 := Tryd.zeroValue4
  t9 := Tryd.underlying9
  a9 := Tryd.isAgg9
  z9 := Tryd.sizeOf9
  v9 := Tryd.zeroValue9 }
open Go.RowKit in
/-- unicode/utf8.RuneCountInString: "RuneCountInString is like RuneCount but its input is a string." ("RuneCount returns the number of runes in p. Erroneous and short encodings are treated as single runes of width 1 byte."): EVERY STRING, valid UTF-8 or not: 'Lib.runeCount s' (plain Lean over the model's own 'Utf8.decode'; 'Lib.runeCount_le': at most len(s); 'Lib.runeCount_ascii': on ASCII: len(s)). THE ONE CONDITION: len(s) below 2^63 - 1 (the counter does not wrap): the form's reach pays it. THE WORLD BEHIND THE CALL: ONE BLOCK MORE: the model's iterator over s, at its end: all else as it was. (LAID: no walk: one application.) -/
theorem Tryd.utf8_RuneCountInString (s : ByteArray) (w : World) (hs : s.size < 9223372036854775807) :
    Calls Tryd.prog 56 #[.string s] w fun e w' => e = .returned (.int .i64 (Lib.runeCount s)) ∧ ∃ pos, w' = w.iter s pos := Any.utf8_RuneCountInString Tryd.lays195 s w hs
open Go.RowKit in
/-- (*strings.Builder).grow (no doc but "grow copies the buffer to a new, larger buffer so that there are at least n bytes of capacity beyond len(b.buf)."): AT A BUILDER WITHOUT A BUFFER: a new row of whatever bytes for its buffer, none of them its own yet. Three draws. (LAID: no walk: one application.) -/
theorem Tryd.Builder_grow_fresh_cap (B b n : Nat) (w : World) (hB : B ≤ b) (hbk : w.heap[b]? = some (.cells #[.pointer (some ⟨b, 0, none⟩), .slice none 0 0] 73 (0, 0))) (hBw : B ≤ w.heap.size) (hn : n ≤ 281474976710656) :
    Calls Tryd.prog 58 #[.pointer (some ⟨b, 0, none⟩), .int .i64 n] w fun e w' => e = .returned (.tuple #[]) ∧ (Lib.BuilderAt 73 5 B b (.pointer (some ⟨b, 0, none⟩)) [] w' ∧ Below B w w') ∧ ∃ p cap, w'.cell? ⟨b, 1, none⟩ = some (.slice p 0 cap) ∧ n ≤ cap := Any.Builder_grow_fresh_cap Tryd.lays241 Tryd.Builder_Extra_241 B b n w hB hbk hBw hn
open Go.RowKit in
/-- (*strings.Builder).Grow AT A BUILDER THAT HAS NOT BEEN WRITTEN ('var b strings.Builder; b.Grow(n)'): "Grow grows b's capacity, if necessary, to guarantee space for another n bytes.": it holds no byte behind it as before it. (LAID: no walk: one application.) -/
theorem Tryd.Builder_Grow_fresh_cap (B b n : Nat) (w : World) (hB : B ≤ b) (hbk : w.heap[b]? = some (.cells #[.pointer none, .slice none 0 0] 73 (0, 0))) (hBw : B ≤ w.heap.size) (hn : n ≤ 281474976710656) :
    Calls Tryd.prog 48 #[.pointer (some ⟨b, 0, none⟩), .int .i64 n] w fun e w' => e = .returned (.tuple #[]) ∧ (Lib.BuilderAt 73 5 B b (.pointer (some ⟨b, 0, none⟩)) [] w' ∧ Below B w w') ∧ ∃ p cap, w'.cell? ⟨b, 1, none⟩ = some (.slice p 0 cap) ∧ n ≤ cap := Any.Builder_Grow_fresh_cap Tryd.lays165 Tryd.Builder_Extra_165 B b n w hB hbk hBw hn
def Tryd.lays206_ren : Go.Shelf.Ren := ⟨fun | 206 => 88 | n => n, fun | 9 => 9 | 4 => 4 | 3 => 3 | n => n, fun | n => n⟩
theorem Tryd.lays206 : Go.Proofs.Lays.n206 Tryd.prog Tryd.lays206_ren := {
  mixed := by kernel_rfl
  f206 := Tryd.func88.trans (congrArg some (by kernel_rfl))
  t3 := Tryd.underlying3
  a3 := Tryd.isAgg3
  z3 := Tryd.sizeOf3
  v3 := Tryd.zeroValue3
  t4 := Tryd.underlying4
  a4 := Tryd.isAgg4
  z4 := Tryd.sizeOf4
  v4 := Tryd.zeroValue4
  t9 := Tryd.underlying9
  a9 := Tryd.isAgg9
  z9 := Tryd.sizeOf9
  v9 := Tryd.zeroValue9 }
open Go.RowKit Go.Lib in
/-- internal/stringslite.HasPrefix (what strings.HasPrefix calls). (LAID: no walk: one application.) -/
theorem Tryd.stringslite_HasPrefix (s p : ByteArray) (w : World) :
    Calls Tryd.prog 88 #[.string s, .string p] w fun e w' => e = .returned (.bool (Lib.hasPrefix s.data.toList p.data.toList)) ∧ w' = w := Any.stringslite_HasPrefix Tryd.lays206 s p w
def Tryd.lays99_ren : Go.Shelf.Ren := ⟨fun | 99 => 71 | 206 => 88 | n => n, fun | 9 => 9 | 4 => 4 | 3 => 3 | n => n, fun | n => n⟩
theorem Tryd.lays99 : Go.Proofs.Lays.n99 Tryd.prog Tryd.lays99_ren := {
  mixed := by kernel_rfl
  f99 := Tryd.func71.trans (congrArg some (by kernel_rfl))
  f206 := Tryd.func88.trans (congrArg some (by kernel_rfl))
  t3 := Tryd.underlying3
  a3 := Tryd.isAgg3
  z3 := Tryd.sizeOf3
  v3 := Tryd.zeroValue3
  t4 := Tryd.underlying4
  a4 := Tryd.isAgg4
  z4 := Tryd.sizeOf4
  v4 := Tryd.zeroValue4
  t9 := Tryd.underlying9
  a9 := Tryd.isAgg9
  z9 := Tryd.sizeOf9
  v9 := Tryd.zeroValue9 }
open Go.RowKit Go.Lib in
/-- strings.HasPrefix: "HasPrefix reports whether the string s begins with prefix.": IT RETURNS 'Lib.hasPrefix s prefix'; the world is as it was. (LAID: no walk: one application.) -/
theorem Tryd.strings_HasPrefix (s p : ByteArray) (w : World) :
    Calls Tryd.prog 71 #[.string s, .string p] w fun e w' => e = .returned (.bool (Lib.hasPrefix s.data.toList p.data.toList)) ∧ w' = w := Any.strings_HasPrefix Tryd.lays99 s p w
def Tryd.lays198_ren : Go.Shelf.Ren := ⟨fun | 198 => 104 | 261 => 109 | 311 => 112 | 312 => 113 | n => n, fun | 21 => 21 | 4 => 4 | 141 => 131 | 0 => 0 | 196 => 142 | 193 => 139 | 3 => 3 | 51 => 111 | 198 => 145 | 49 => 143 | 194 => 140 | 201 => 148 | 226 => 154 | 46 => 98 | 227 => 155 | n => n, fun | 5 => 4 | n => n⟩
theorem Tryd.lays198 : Go.Proofs.Lays.n198 Tryd.prog Tryd.lays198_ren := {
  mixed := by kernel_rfl
  f198 := Tryd.func104.trans (congrArg some (by kernel_rfl))
  f261 := Tryd.func109.trans (congrArg some (by kernel_rfl))
  f311 := Tryd.func112.trans (congrArg some (by kernel_rfl))
  f312 := Tryd.func113.trans (congrArg some (by kernel_rfl))
  t0 := Tryd.underlying0
  a0 := Tryd.isAgg0
  z0 := Tryd.sizeOf0
  v0 := Tryd.zeroValue0
  t3 := Tryd.underlying3
  a3 := Tryd.isAgg3
  z3 := Tryd.sizeOf3
  v3 := Tryd.zeroValue3
  t4 := Tryd.underlying4
  a4 := Tryd.isAgg4
  z4 := Tryd.sizeOf4
  v4 := Tryd.zeroValue4
  t21 := Tryd.underlying21
  a21 := Tryd.isAgg21
  z21 := Tryd.sizeOf21
  v21 := Tryd.zeroValue21
  t46 := Tryd.underlying98
  a46 := Tryd.isAgg98
  z46 := Tryd.sizeOf98
  v46 := Tryd.zeroValue98
  t49 := Tryd.underlying143
  a49 := Tryd.isAgg143
  z49 := Tryd.sizeOf143
  v49 := Tryd.zeroValue143
  t51 := Tryd.underlying111
  a51 := Tryd.isAgg111
  z51 := Tryd.sizeOf111
  v51 := Tryd.zeroValue111
  t141 := Tryd.underlying131
  a141 := Tryd.isAgg131
  z141 := Tryd.sizeOf131
  v141 := Tryd.zeroValue131
  t193 := Tryd.underlying139
  a193 := Tryd.isAgg139
  z193 := Tryd.sizeOf139
  v193 := Tryd.zeroValue139
  t194 := Tryd.underlying140
  a194 := Tryd.isAgg140
  z194 := Tryd.sizeOf140
  v194 := Tryd.zeroValue140
  t196 := Tryd.underlying142
  a196 := Tryd.isAgg142
  z196 := Tryd.sizeOf142
  v196 := Tryd.zeroValue142
  t198 := Tryd.underlying145
  a198 := Tryd.isAgg145
  z198 := Tryd.sizeOf145
  v198 := Tryd.zeroValue145
  t201 := Tryd.underlying148
  a201 := Tryd.isAgg148
  z201 := Tryd.sizeOf148
  v201 := Tryd.zeroValue148
  t226 := Tryd.underlying154
  a226 := Tryd.isAgg154
  z226 := Tryd.sizeOf154
  v226 := Tryd.zeroValue154
  t227 := Tryd.underlying155
  a227 := Tryd.isAgg155
  z227 := Tryd.sizeOf155
  v227 := Tryd.zeroValue155
  g5 := by kernel_rfl }
open Go.RowKit Go.Lib in
theorem Tryd.unicode_IsDigit (r : Int) (w : World) (h : r ≤ 255) :
    Calls Tryd.prog 104 #[.int .i32 r] w fun e w' => e = .returned (.bool (Lib.isDigitL r)) ∧ w' = w := Any.unicode_IsDigit Tryd.lays198 r w h
def Tryd.lays199_ren : Go.Shelf.Ren := ⟨fun | 199 => 105 | 261 => 109 | 311 => 112 | 312 => 113 | n => n, fun | 21 => 21 | 4 => 4 | 51 => 111 | 141 => 131 | 0 => 0 | 196 => 142 | 193 => 139 | 3 => 3 | 198 => 145 | 49 => 143 | 194 => 140 | 201 => 148 | 226 => 154 | 46 => 98 | 227 => 155 | n => n, fun | 6 => 5 | n => n⟩
theorem Tryd.lays199 : Go.Proofs.Lays.n199 Tryd.prog Tryd.lays199_ren := {
  mixed := by kernel_rfl
  f199 := Tryd.func105.trans (congrArg some (by kernel_rfl))
  f261 := Tryd.func109.trans (congrArg some (by kernel_rfl))
  f311 := Tryd.func112.trans (congrArg some (by kernel_rfl))
  f312 := Tryd.func113.trans (congrArg some (by kernel_rfl))
  t0 := Tryd.underlying0
  a0 := Tryd.isAgg0
  z0 := Tryd.sizeOf0
  v0 := Tryd.zeroValue0
  t3 := Tryd.underlying3
  a3 := Tryd.isAgg3
  z3 := Tryd.sizeOf3
  v3 := Tryd.zeroValue3
  t4 := Tryd.underlying4
  a4 := Tryd.isAgg4
  z4 := Tryd.sizeOf4
  v4 := Tryd.zeroValue4
  t21 := Tryd.underlying21
  a21 := Tryd.isAgg21
  z21 := Tryd.sizeOf21
  v21 := Tryd.zeroValue21
  t46 := Tryd.underlying98
  a46 := Tryd.isAgg98
  z46 := Tryd.sizeOf98
  v46 := Tryd.zeroValue98
  t49 := Tryd.underlying143
  a49 := Tryd.isAgg143
  z49 := Tryd.sizeOf143
  v49 := Tryd.zeroValue143
  t51 := Tryd.underlying111
  a51 := Tryd.isAgg111
  z51 := Tryd.sizeOf111
  v51 := Tryd.zeroValue111
  t141 := Tryd.underlying131
  a141 := Tryd.isAgg131
  z141 := Tryd.sizeOf131
  v141 := Tryd.zeroValue131
  t193 := Tryd.underlying139
  a193 := Tryd.isAgg139
  z193 := Tryd.sizeOf139
  v193 := Tryd.zeroValue139
  t194 := Tryd.underlying140
  a194 := Tryd.isAgg140
  z194 := Tryd.sizeOf140
  v194 := Tryd.zeroValue140
  t196 := Tryd.underlying142
  a196 := Tryd.isAgg142
  z196 := Tryd.sizeOf142
  v196 := Tryd.zeroValue142
  t198 := Tryd.underlying145
  a198 := Tryd.isAgg145
  z198 := Tryd.sizeOf145
  v198 := Tryd.zeroValue145
  t201 := Tryd.underlying148
  a201 := Tryd.isAgg148
  z201 := Tryd.sizeOf148
  v201 := Tryd.zeroValue148
  t226 := Tryd.underlying154
  a226 := Tryd.isAgg154
  z226 := Tryd.sizeOf154
  v226 := Tryd.zeroValue154
  t227 := Tryd.underlying155
  a227 := Tryd.isAgg155
  z227 := Tryd.sizeOf155
  v227 := Tryd.zeroValue155
  g6 := by kernel_rfl }
open Go.RowKit Go.Lib in
theorem Tryd.unicode_IsSpace (r : Int) (w : World) (h0 : 0 ≤ r) (h : r ≤ 255) :
    Calls Tryd.prog 105 #[.int .i32 r] w fun e w' => e = .returned (.bool (Lib.isSpaceL r)) ∧ w' = w := Any.unicode_IsSpace Tryd.lays199 r w h0 h
def Tryd.lays203_ren : Go.Shelf.Ren := ⟨fun | 203 => 95 | 262 => 102 | 313 => 108 | 274 => 110 | 275 => 111 | n => n, fun | 21 => 21 | 4 => 4 | 3 => 3 | 162 => 128 | 203 => 126 | 160 => 136 | 46 => 98 | 0 => 0 | 208 => 153 | 51 => 111 | 206 => 151 | n => n, fun | 13 => 1 | n => n⟩
theorem Tryd.lays203 : Go.Proofs.Lays.n203 Tryd.prog Tryd.lays203_ren := {
  mixed := by kernel_rfl
  f203 := Tryd.func95.trans (congrArg some (by kernel_rfl))
  f262 := Tryd.func102.trans (congrArg some (by kernel_rfl))
  f274 := Tryd.func110.trans (congrArg some (by kernel_rfl))
  f275 := Tryd.func111.trans (congrArg some (by kernel_rfl))
  f313 := Tryd.func108.trans (congrArg some (by kernel_rfl))
  t0 := Tryd.underlying0
  a0 := Tryd.isAgg0
  z0 := Tryd.sizeOf0
  v0 := Tryd.zeroValue0
  t3 := Tryd.underlying3
  a3 := Tryd.isAgg3
  z3 := Tryd.sizeOf3
  v3 := Tryd.zeroValue3
  t4 := Tryd.underlying4
  a4 := Tryd.isAgg4
  z4 := Tryd.sizeOf4
  v4 := Tryd.zeroValue4
  t21 := Tryd.underlying21
  a21 := Tryd.isAgg21
  z21 := Tryd.sizeOf21
  v21 := Tryd.zeroValue21
  t46 := Tryd.underlying98
  a46 := Tryd.isAgg98
  z46 := Tryd.sizeOf98
  v46 := Tryd.zeroValue98
  t51 := Tryd.underlying111
  a51 := Tryd.isAgg111
  z51 := Tryd.sizeOf111
  v51 := Tryd.zeroValue111
  t160 := Tryd.underlying136
  a160 := Tryd.isAgg136
  z160 := Tryd.sizeOf136
  v160 := Tryd.zeroValue136
  t162 := Tryd.underlying128
  a162 := Tryd.isAgg128
  z162 := Tryd.sizeOf128
  v162 := Tryd.zeroValue128
  t203 := Tryd.underlying126
  a203 := Tryd.isAgg126
  z203 := Tryd.sizeOf126
  v203 := Tryd.zeroValue126
  t206 := Tryd.underlying151
  a206 := Tryd.isAgg151
  z206 := Tryd.sizeOf151
  v206 := Tryd.zeroValue151
  t208 := Tryd.underlying153
  a208 := Tryd.isAgg153
  z208 := Tryd.sizeOf153
  v208 := Tryd.zeroValue153
  g13 := by kernel_rfl }
open Go.RowKit Go.Lib in
theorem Tryd.unicode_ToUpper (r : Int) (w : World) (h : r ≤ 127) :
    Calls Tryd.prog 95 #[.int .i32 r] w fun e w' => e = .returned (.int .i32 (Lib.toUpperR r)) ∧ w' = w := Any.unicode_ToUpper Tryd.lays203 r w h
def Tryd.lays204_ren : Go.Shelf.Ren := ⟨fun | 204 => 92 | 262 => 102 | 313 => 108 | 274 => 110 | 275 => 111 | n => n, fun | 21 => 21 | 4 => 4 | 3 => 3 | 162 => 128 | 203 => 126 | 160 => 136 | 46 => 98 | 0 => 0 | 208 => 153 | 51 => 111 | 206 => 151 | n => n, fun | 13 => 1 | n => n⟩
theorem Tryd.lays204 : Go.Proofs.Lays.n204 Tryd.prog Tryd.lays204_ren := {
  mixed := by kernel_rfl
  f204 := Tryd.func92.trans (congrArg some (by kernel_rfl))
  f262 := Tryd.func102.trans (congrArg some (by kernel_rfl))
  f274 := Tryd.func110.trans (congrArg some (by kernel_rfl))
  f275 := Tryd.func111.trans (congrArg some (by kernel_rfl))
  f313 := Tryd.func108.trans (congrArg some (by kernel_rfl))
  t0 := Tryd.underlying0
  a0 := Tryd.isAgg0
  z0 := Tryd.sizeOf0
  v0 := Tryd.zeroValue0
  t3 := Tryd.underlying3
  a3 := Tryd.isAgg3
  z3 := Tryd.sizeOf3
  v3 := Tryd.zeroValue3
  t4 := Tryd.underlying4
  a4 := Tryd.isAgg4
  z4 := Tryd.sizeOf4
  v4 := Tryd.zeroValue4
  t21 := Tryd.underlying21
  a21 := Tryd.isAgg21
  z21 := Tryd.sizeOf21
  v21 := Tryd.zeroValue21
  t46 := Tryd.underlying98
  a46 := Tryd.isAgg98
  z46 := Tryd.sizeOf98
  v46 := Tryd.zeroValue98
  t51 := Tryd.underlying111
  a51 := Tryd.isAgg111
  z51 := Tryd.sizeOf111
  v51 := Tryd.zeroValue111
  t160 := Tryd.underlying136
  a160 := Tryd.isAgg136
  z160 := Tryd.sizeOf136
  v160 := Tryd.zeroValue136
  t162 := Tryd.underlying128
  a162 := Tryd.isAgg128
  z162 := Tryd.sizeOf128
  v162 := Tryd.zeroValue128
  t203 := Tryd.underlying126
  a203 := Tryd.isAgg126
  z203 := Tryd.sizeOf126
  v203 := Tryd.zeroValue126
  t206 := Tryd.underlying151
  a206 := Tryd.isAgg151
  z206 := Tryd.sizeOf151
  v206 := Tryd.zeroValue151
  t208 := Tryd.underlying153
  a208 := Tryd.isAgg153
  z208 := Tryd.sizeOf153
  v208 := Tryd.zeroValue153
  g13 := by kernel_rfl }
open Go.RowKit Go.Lib in
theorem Tryd.unicode_ToLower (r : Int) (w : World) (h : r ≤ 127) :
    Calls Tryd.prog 92 #[.int .i32 r] w fun e w' => e = .returned (.int .i32 (Lib.toLowerR r)) ∧ w' = w := Any.unicode_ToLower Tryd.lays204 r w h
def Tryd.lays200_ren : Go.Shelf.Ren := ⟨fun | 200 => 103 | 261 => 109 | 311 => 112 | 312 => 113 | n => n, fun | 21 => 21 | 4 => 4 | 51 => 111 | 5 => 5 | 119 => 129 | 0 => 0 | 141 => 131 | 196 => 142 | 193 => 139 | 3 => 3 | 198 => 145 | 49 => 143 | 194 => 140 | 201 => 148 | 226 => 154 | 46 => 98 | 227 => 155 | n => n, fun | 7 => 2 | 8 => 3 | n => n⟩
theorem Tryd.lays200 : Go.Proofs.Lays.n200 Tryd.prog Tryd.lays200_ren := {
  mixed := by kernel_rfl
  f200 := Tryd.func103.trans (congrArg some (by kernel_rfl))
  f261 := Tryd.func109.trans (congrArg some (by kernel_rfl))
  f311 := Tryd.func112.trans (congrArg some (by kernel_rfl))
  f312 := Tryd.func113.trans (congrArg some (by kernel_rfl))
  t0 := Tryd.underlying0
  a0 := Tryd.isAgg0
  z0 := Tryd.sizeOf0
  v0 := Tryd.zeroValue0
  t3 := Tryd.underlying3
  a3 := Tryd.isAgg3
  z3 := Tryd.sizeOf3
  v3 := Tryd.zeroValue3
  t4 := Tryd.underlying4
  a4 := Tryd.isAgg4
  z4 := Tryd.sizeOf4
  v4 := Tryd.zeroValue4
  t5 := Tryd.underlying5
  a5 := Tryd.isAgg5
  z5 := Tryd.sizeOf5
  v5 := Tryd.zeroValue5
  t21 := Tryd.underlying21
  a21 := Tryd.isAgg21
  z21 := Tryd.sizeOf21
  v21 := Tryd.zeroValue21
  t46 := Tryd.underlying98
  a46 := Tryd.isAgg98
  z46 := Tryd.sizeOf98
  v46 := Tryd.zeroValue98
  t49 := Tryd.underlying143
  a49 := Tryd.isAgg143
  z49 := Tryd.sizeOf143
  v49 := Tryd.zeroValue143
  t51 := Tryd.underlying111
  a51 := Tryd.isAgg111
  z51 := Tryd.sizeOf111
  v51 := Tryd.zeroValue111
  t119 := Tryd.underlying129
  a119 := Tryd.isAgg129
  z119 := Tryd.sizeOf129
  t141 := Tryd.underlying131
  a141 := Tryd.isAgg131
  z141 := Tryd.sizeOf131
  v141 := Tryd.zeroValue131
  t193 := Tryd.underlying139
  a193 := Tryd.isAgg139
  z193 := Tryd.sizeOf139
  v193 := Tryd.zeroValue139
  t194 := Tryd.underlying140
  a194 := Tryd.isAgg140
  z194 := Tryd.sizeOf140
  v194 := Tryd.zeroValue140
  t196 := Tryd.underlying142
  a196 := Tryd.isAgg142
  z196 := Tryd.sizeOf142
  v196 := Tryd.zeroValue142
  t198 := Tryd.underlying145
  a198 := Tryd.isAgg145
  z198 := Tryd.sizeOf145
  v198 := Tryd.zeroValue145
  t201 := Tryd.underlying148
  a201 := Tryd.isAgg148
  z201 := Tryd.sizeOf148
  v201 := Tryd.zeroValue148
  t226 := Tryd.underlying154
  a226 := Tryd.isAgg154
  z226 := Tryd.sizeOf154
  v226 := Tryd.zeroValue154
  t227 := Tryd.underlying155
  a227 := Tryd.isAgg155
  z227 := Tryd.sizeOf155
  v227 := Tryd.zeroValue155
  g7 := by kernel_rfl
  g8 := by kernel_rfl }
open Go.RowKit Go.Lib in
theorem Tryd.unicode_IsLetter (c : Nat) (w : World) (hc : c < 256) (htab : Lib.TabIs Tryd.prog w "unicode.properties" .u8 Lib.propertiesTab) :
    Calls Tryd.prog 103 #[.int .i32 c] w fun e w' => e = .returned (.bool (Lib.isLetterL c)) ∧ w' = w := Any.unicode_IsLetter Tryd.lays200 (by kernel_rfl) c w hc htab
def Tryd.laysM200_ren : Go.Shelf.Ren := ⟨fun | 200 => 103 | 261 => 109 | 311 => 112 | 312 => 113 | n => n, fun | 21 => 21 | 4 => 4 | 51 => 111 | 5 => 5 | 119 => 129 | 0 => 0 | 141 => 131 | 196 => 142 | 193 => 139 | 3 => 3 | 198 => 145 | 49 => 143 | 194 => 140 | 201 => 148 | 226 => 154 | 46 => 98 | 227 => 155 | n => n, fun | 7 => 2 | 8 => 3 | n => n⟩
theorem Tryd.laysM200 : Go.Proofs.LaysM.n200 Tryd.prog Tryd.laysM200_ren := {
  mixed := by kernel_rfl
  f200 := Tryd.func103.trans (congrArg some (by kernel_rfl))
  f261 := Tryd.func109.trans (congrArg some (by kernel_rfl))
  f311 := Tryd.func112.trans (congrArg some (by kernel_rfl))
  f312 := Tryd.func113.trans (congrArg some (by kernel_rfl))
  t0 := Tryd.underlying0
  a0 := Tryd.isAgg0
  z0 := Tryd.sizeOf0
  v0 := Tryd.zeroValue0
  t3 := Tryd.underlying3
  a3 := Tryd.isAgg3
  z3 := Tryd.sizeOf3
  v3 := Tryd.zeroValue3
  t4 := Tryd.underlying4
  a4 := Tryd.isAgg4
  z4 := Tryd.sizeOf4
  v4 := Tryd.zeroValue4
  t5 := Tryd.underlying5
  a5 := Tryd.isAgg5
  z5 := Tryd.sizeOf5
  v5 := Tryd.zeroValue5
  t21 := Tryd.underlying21
  a21 := Tryd.isAgg21
  z21 := Tryd.sizeOf21
  v21 := Tryd.zeroValue21
  t46 := Tryd.underlying98
  a46 := Tryd.isAgg98
  z46 := Tryd.sizeOf98
  v46 := Tryd.zeroValue98
  t49 := Tryd.underlying143
  a49 := Tryd.isAgg143
  z49 := Tryd.sizeOf143
  v49 := Tryd.zeroValue143
  t51 := Tryd.underlying111
  a51 := Tryd.isAgg111
  z51 := Tryd.sizeOf111
  v51 := Tryd.zeroValue111
  t119 := Tryd.underlying129
  a119 := Tryd.isAgg129
  z119 := Tryd.sizeOf129
  t141 := Tryd.underlying131
  a141 := Tryd.isAgg131
  z141 := Tryd.sizeOf131
  v141 := Tryd.zeroValue131
  t193 := Tryd.underlying139
  a193 := Tryd.isAgg139
  z193 := Tryd.sizeOf139
  v193 := Tryd.zeroValue139
  t194 := Tryd.underlying140
  a194 := Tryd.isAgg140
  z194 := Tryd.sizeOf140
  v194 := Tryd.zeroValue140
  t196 := Tryd.underlying142
  a196 := Tryd.isAgg142
  z196 := Tryd.sizeOf142
  v196 := Tryd.zeroValue142
  t198 := Tryd.underlying145
  a198 := Tryd.isAgg145
  z198 := Tryd.sizeOf145
  v198 := Tryd.zeroValue145
  t201 := Tryd.underlying148
  a201 := Tryd.isAgg148
  z201 := Tryd.sizeOf148
  v201 := Tryd.zeroValue148
  t226 := Tryd.underlying154
  a226 := Tryd.isAgg154
  z226 := Tryd.sizeOf154
  v226 := Tryd.zeroValue154
  t227 := Tryd.underlying155
  a227 := Tryd.isAgg155
  z227 := Tryd.sizeOf155
  v227 := Tryd.zeroValue155
  g7 := by kernel_rfl
  g8 := by kernel_rfl
  i0 := by kernel_rfl
  i3 := by kernel_rfl
  i4 := by kernel_rfl
  i5 := by kernel_rfl
  i21 := by kernel_rfl
  i46 := by kernel_rfl
  i49 := by kernel_rfl
  i51 := by kernel_rfl
  i141 := by kernel_rfl
  i193 := by kernel_rfl
  i194 := by kernel_rfl
  i196 := by kernel_rfl
  i198 := by kernel_rfl
  i201 := by kernel_rfl
  i226 := by kernel_rfl
  i227 := by kernel_rfl
  m7 := by kernel_rfl
  m8 := by kernel_rfl }
open Go.RowKit Go.Lib in
theorem Tryd.unicode_IsLetter_laid (c : Nat) (w : World) (hc : c < 256) (htab : Lib.TabIs Tryd.prog w "unicode.properties" .u8 Lib.propertiesTab) :
    Calls Tryd.prog 103 #[.int .i32 c] w fun e w' => e = .returned (.bool (Lib.isLetterL c)) ∧ w' = w := Any.unicode_IsLetter_laid Tryd.laysM200 c w hc htab
def Tryd.lays197_ren : Go.Shelf.Ren := ⟨fun | 197 => 99 | 260 => 107 | n => n, fun | 9 => 9 | 21 => 21 | 3 => 3 | 4 => 4 | 5 => 5 | 105 => 121 | 119 => 129 | 0 => 0 | 46 => 98 | 139 => 135 | 138 => 134 | n => n, fun | 3 => 6 | 4 => 7 | n => n⟩
theorem Tryd.lays197 : Go.Proofs.Lays.n197 Tryd.prog Tryd.lays197_ren := {
  mixed := by kernel_rfl
  f197 := Tryd.func99.trans (congrArg some (by kernel_rfl))
  f260 := Tryd.func107.trans (congrArg some (by kernel_rfl))
  t0 := Tryd.underlying0
  a0 := Tryd.isAgg0
  z0 := Tryd.sizeOf0
  v0 := Tryd.zeroValue0
  t3 := Tryd.underlying3
  a3 := Tryd.isAgg3
  z3 := Tryd.sizeOf3
  v3 := Tryd.zeroValue3
  t4 := Tryd.underlying4
  a4 := Tryd.isAgg4
  z4 := Tryd.sizeOf4
  v4 := Tryd.zeroValue4
  t5 := Tryd.underlying5
  a5 := Tryd.isAgg5
  z5 := Tryd.sizeOf5
  v5 := Tryd.zeroValue5
  t9 := Tryd.underlying9
  a9 := Tryd.isAgg9
  z9 := Tryd.sizeOf9
  v9 := Tryd.zeroValue9
  t21 := Tryd.underlying21
  a21 := Tryd.isAgg21
  z21 := Tryd.sizeOf21
  v21 := Tryd.zeroValue21
  t46 := Tryd.underlying98
  a46 := Tryd.isAgg98
  z46 := Tryd.sizeOf98
  v46 := Tryd.zeroValue98
  t105 := Tryd.underlying121
  a105 := Tryd.isAgg121
  z105 := Tryd.sizeOf121
  v105 := Tryd.zeroValue121
  t119 := Tryd.underlying129
  a119 := Tryd.isAgg129
  z119 := Tryd.sizeOf129
  t138 := Tryd.underlying134
  a138 := Tryd.isAgg134
  z138 := Tryd.sizeOf134
  v138 := Tryd.zeroValue134
  t139 := Tryd.underlying135
  a139 := Tryd.isAgg135
  z139 := Tryd.sizeOf135
  v139 := Tryd.zeroValue135
  g3 := by kernel_rfl
  g4 := by kernel_rfl }
open Go.RowKit Go.Lib in
/-- unicode/utf8.DecodeRuneInString: "DecodeRuneInString is like DecodeRune but its input is a string.": ("DecodeRune unpacks the first UTF-8 encoding in p and returns the rune and its width in bytes."): WHERE s BEGINS WITH AN ASCII BYTE x: (x, 1). (LAID: no walk: one application.) -/
theorem Tryd.utf8_DecodeRuneInString_ascii (s : ByteArray) (x : UInt8) (w : World) (h0 : s.data.toList[0]? = some x) (hx : x.toNat < 128) :
    Calls Tryd.prog 99 #[.string s] w fun e w' => e = .returned (.tuple #[.int .i32 x.toNat, .int .i64 1]) ∧ w' = w := Any.utf8_DecodeRuneInString_ascii Tryd.lays197 s x w h0 hx
open Go.RowKit Go.Lib in
theorem Tryd.utf8_RuneCountInString_ascii (s : ByteArray) (w : World) (hs : s.size < 4294967281) (hascii : ∀ (j : Nat) b, s.data.toList[j]? = some b → b.toNat < 128) :
    Calls Tryd.prog 56 #[.string s] w fun e w' => e = .returned (.int .i64 s.size) ∧ w' = w.iter s s.size := Any.utf8_RuneCountInString_ascii Tryd.lays195 s w hs hascii
def Tryd.lays264_ren : Go.Shelf.Ren := ⟨fun | 264 => 87 | n => n, fun | 53 => 114 | 46 => 98 | n => n, fun | n => n⟩
theorem Tryd.lays264 : Go.Proofs.Lays.n264 Tryd.prog Tryd.lays264_ren := {
  mixed := by kernel_rfl
  f264 := Tryd.func87.trans (congrArg some (by kernel_rfl))
  t46 := Tryd.underlying98
  a46 := Tryd.isAgg98
  z46 := Tryd.sizeOf98
  v46 := Tryd.zeroValue98
  t53 := Tryd.underlying114
  a53 := Tryd.isAgg114
  z53 := Tryd.sizeOf114
  v53 := Tryd.zeroValue114 }
open Go.RowKit Go.Lib in
theorem Tryd.bits_Mul64 (x y : Nat) (hx : x < 18446744073709551616) (hy : y < 18446744073709551616) (w : World) :
    Calls Tryd.prog 87 #[.int .u64 x, .int .u64 y] w fun e w' => e = .returned (.tuple #[.int .u64 ((x * y / 18446744073709551616 : Nat) : Int), .int .u64 ((x * y % 18446744073709551616 : Nat) : Int)]) ∧ w' = w := Any.bits_Mul64 Tryd.lays264 x y hx hy w
def Tryd.lays212_ren : Go.Shelf.Ren := ⟨fun | 212 => 70 | 263 => 86 | 264 => 87 | n => n, fun | 46 => 98 | 51 => 111 | 146 => 112 | 53 => 114 | 148 => 115 | n => n, fun | n => n⟩
theorem Tryd.lays212 : Go.Proofs.Lays.n212 Tryd.prog Tryd.lays212_ren := {
  mixed := by kernel_rfl
  f212 := Tryd.func70.trans (congrArg some (by kernel_rfl))
  f263 := Tryd.func86.trans (congrArg some (by kernel_rfl))
  f264 := Tryd.func87.trans (congrArg some (by kernel_rfl))
  t46 := Tryd.underlying98
  a46 := Tryd.isAgg98
  z46 := Tryd.sizeOf98
  v46 := Tryd.zeroValue98
  t51 := Tryd.underlying111
  a51 := Tryd.isAgg111
  z51 := Tryd.sizeOf111
  v51 := Tryd.zeroValue111
  t53 := Tryd.underlying114
  a53 := Tryd.isAgg114
  z53 := Tryd.sizeOf114
  v53 := Tryd.zeroValue114
  t146 := Tryd.underlying112
  a146 := Tryd.isAgg112
  z146 := Tryd.sizeOf112
  v146 := Tryd.zeroValue112
  t148 := Tryd.underlying115
  a148 := Tryd.isAgg115
  z148 := Tryd.sizeOf115
  v148 := Tryd.zeroValue115 }
open Go.RowKit Go.Lib in
/-- math/bits.Mul: "Mul returns the full-width product of x and y": on a machine of 64 bits: Mul64's. (LAID: no walk: one application.) -/
theorem Tryd.bits_Mul (x y : Nat) (hx : x < 18446744073709551616) (hy : y < 18446744073709551616) (w : World) :
    Calls Tryd.prog 70 #[.int .u64 x, .int .u64 y] w fun e w' => e = .returned (.tuple #[.int .u64 ((x * y / 18446744073709551616 : Nat) : Int), .int .u64 ((x * y % 18446744073709551616 : Nat) : Int)]) ∧ w' = w := Any.bits_Mul Tryd.lays212 x y hx hy w
def Tryd.lays105_ren : Go.Shelf.Ren := ⟨fun | 105 => 55 | 212 => 70 | 99 => 71 | 165 => 48 | 166 => 66 | 170 => 72 | 169 => 67 | 263 => 86 | 264 => 87 | 206 => 88 | 240 => 57 | 241 => 58 | 276 => 73 | 277 => 74 | n => n, fun | 9 => 9 | 3 => 3 | 4 => 4 | 20 => 20 | 0 => 0 | 46 => 98 | 109 => 99 | 5 => 5 | 72 => 73 | 76 => 88 | 51 => 111 | 146 => 112 | 53 => 114 | 148 => 115 | 70 => 70 | 37 => 71 | 75 => 87 | 127 => 107 | 164 => 101 | 80 => 56 | n => n, fun | n => n⟩
theorem Tryd.lays105 : Go.Proofs.Lays.n105 Tryd.prog Tryd.lays105_ren := {
  mixed := by kernel_rfl
  f99 := Tryd.func71.trans (congrArg some (by kernel_rfl))
  f105 := Tryd.func55.trans (congrArg some (by kernel_rfl))
  f165 := Tryd.func48.trans (congrArg some (by kernel_rfl))
  f166 := Tryd.func66.trans (congrArg some (by kernel_rfl))
  f169 := Tryd.func67.trans (congrArg some (by kernel_rfl))
  f170 := Tryd.func72.trans (congrArg some (by kernel_rfl))
  f206 := Tryd.func88.trans (congrArg some (by kernel_rfl))
  f212 := Tryd.func70.trans (congrArg some (by kernel_rfl))
  f240 := Tryd.func57.trans (congrArg some (by kernel_rfl))
  f241 := Tryd.func58.trans (congrArg some (by kernel_rfl))
  f263 := Tryd.func86.trans (congrArg some (by kernel_rfl))
  f264 := Tryd.func87.trans (congrArg some (by kernel_rfl))
  f276 := Tryd.func73.trans (congrArg some (by kernel_rfl))
  f277 := Tryd.func74.trans (congrArg some (by kernel_rfl))
  t0 := Tryd.underlying0
  a0 := Tryd.isAgg0
  z0 := Tryd.sizeOf0
  v0 := Tryd.zeroValue0
  t3 := Tryd.underlying3
  a3 := Tryd.isAgg3
  z3 := Tryd.sizeOf3
  v3 := Tryd.zeroValue3
  t4 := Tryd.underlying4
  a4 := Tryd.isAgg4
  z4 := Tryd.sizeOf4
  v4 := Tryd.zeroValue4
  t5 := Tryd.underlying5
  a5 := Tryd.isAgg5
  z5 := Tryd.sizeOf5
  v5 := Tryd.zeroValue5
  t9 := Tryd.underlying9
  a9 := Tryd.isAgg9
  z9 := Tryd.sizeOf9
  v9 := Tryd.zeroValue9
  t20 := Tryd.underlying20
  a20 := Tryd.isAgg20
  z20 := Tryd.sizeOf20
  v20 := Tryd.zeroValue20
  t37 := Tryd.underlying71
  a37 := Tryd.isAgg71
  z37 := Tryd.sizeOf71
  v37 := Tryd.zeroValue71
  t46 := Tryd.underlying98
  a46 := Tryd.isAgg98
  z46 := Tryd.sizeOf98
  v46 := Tryd.zeroValue98
  t51 := Tryd.underlying111
  a51 := Tryd.isAgg111
  z51 := Tryd.sizeOf111
  v51 := Tryd.zeroValue111
  t53 := Tryd.underlying114
  a53 := Tryd.isAgg114
  z53 := Tryd.sizeOf114
  v53 := Tryd.zeroValue114
  t70 := Tryd.underlying70
  a70 := Tryd.isAgg70
  z70 := Tryd.sizeOf70
  v70 := Tryd.zeroValue70
  t72 := Tryd.underlying73
  a72 := Tryd.isAgg73
  z72 := Tryd.sizeOf73
  v72 := Tryd.zeroValue73
  t75 := Tryd.underlying87
  a75 := Tryd.isAgg87
  z75 := Tryd.sizeOf87
  v75 := Tryd.zeroValue87
  t76 := Tryd.underlying88
  a76 := Tryd.isAgg88
  z76 := Tryd.sizeOf88
  v76 := Tryd.zeroValue88
  t109 := Tryd.underlying99
  a109 := Tryd.isAgg99
  z109 := Tryd.sizeOf99
  v109 := Tryd.zeroValue99
  t127 := Tryd.underlying107
  a127 := Tryd.isAgg107
  z127 := Tryd.sizeOf107
  v127 := Tryd.zeroValue107
  t146 := Tryd.underlying112
  a146 := Tryd.isAgg112
  z146 := Tryd.sizeOf112
  v146 := Tryd.zeroValue112
  t148 := Tryd.underlying115
  a148 := Tryd.isAgg115
  z148 := Tryd.sizeOf115
  v148 := Tryd.zeroValue115
  t164 := Tryd.underlying101
  a164 := Tryd.isAgg101
  z164 := Tryd.sizeOf101
  v164 := Tryd.zeroValue101 }
theorem Tryd.Builder_Extra_105 : Builder.Extra Tryd.prog Tryd.lays105_ren := {
  sizeBuilder := by kernel_rfl
  liesBuilder := by kernel_rfl
  t5 := Tryd.underlying5
  a5 := Tryd.isAgg5
  z5 := Tryd.sizeOf5
  v5 := Tryd.zeroValue5
  infoByte := by kernel_rfl
  cellsByte := by kernel_rfl
  sizeByte := by kernel_rfl
  neB5 := by decide }
open Go.RowKit Go.Lib in
/-- THE MAIN CASE: at least two copies of a string that is not empty. (LAID: no walk: one application.) -/
theorem Tryd.strings_Repeat_main (s : ByteArray) (c : Nat) (w : World) (hc2 : 2 ≤ c) (hc : c ≤ 9223372036854775807) (hlen : s.size * c ≤ 140737488355328) (h0 : 0 < s.size) :
    Calls Tryd.prog 55 #[.string s, .int .i64 c] w fun e w' => e = .returned (.string ⟨(Lib.repeatL s.data.toList c).toArray⟩) ∧ Below w.heap.size w w' := Any.strings_Repeat_main Tryd.lays105 Tryd.Builder_Extra_105 s c w hc2 hc hlen h0
open Go.RowKit Go.Lib in
theorem Tryd.strings_Repeat_zero (s : ByteArray) (w : World) :
    Calls Tryd.prog 55 #[.string s, .int .i64 0] w fun e w' => e = .returned (.string ⟨#[]⟩) ∧ w' = w := Any.strings_Repeat_zero Tryd.lays105 s w
open Go.RowKit Go.Lib in
theorem Tryd.strings_Repeat_one (s : ByteArray) (w : World) :
    Calls Tryd.prog 55 #[.string s, .int .i64 1] w fun e w' => e = .returned (.string s) ∧ w' = w := Any.strings_Repeat_one Tryd.lays105 s w
open Go.RowKit Go.Lib in
/-- Copies of the empty string. (LAID: no walk: one application.) -/
theorem Tryd.strings_Repeat_empty (s : ByteArray) (c : Nat) (w : World) (hc2 : 2 ≤ c) (hc : c ≤ 9223372036854775807) (h0 : s.size = 0) :
    Calls Tryd.prog 55 #[.string s, .int .i64 c] w fun e w' => e = .returned (.string ⟨#[]⟩) ∧ w' = w := Any.strings_Repeat_empty Tryd.lays105 s c w hc2 hc h0
open Go.RowKit Go.Lib in
/-- count < 0: "It panics if count is negative". (LAID: no walk: one application.) -/
theorem Tryd.strings_Repeat_negative (s : ByteArray) (c : Int) (w : World) (hc : c < 0) :
    Calls Tryd.prog 55 #[.string s, .int .i64 c] w fun e w' => e = .panicked [{ v := repeatPanic Tryd.lays105_ren "strings: negative Repeat count", recovered := false }] ∧ w' = w := Any.strings_Repeat_negative Tryd.lays105 s c w hc
open Go.RowKit Go.Lib in
/-- len(s) * count is no int: ".. or if the result of (len(s) * count) overflows". (LAID: no walk: one application.) -/
theorem Tryd.strings_Repeat_overflow (s : ByteArray) (c : Nat) (w : World) (hc : c ≤ 9223372036854775807) (hs : s.size ≤ 9223372036854775807) (hbig : 9223372036854775807 < s.size * c) :
    Calls Tryd.prog 55 #[.string s, .int .i64 c] w fun e w' => e = .panicked [{ v := repeatPanic Tryd.lays105_ren "strings: Repeat output length overflow", recovered := false }] ∧ w' = w := Any.strings_Repeat_overflow Tryd.lays105 s c w hc hs hbig
open Go.RowKit Go.Lib in
/-- **strings.Repeat: count ≥ 0, the result within one allocation: count copies of s.** (LAID: no walk: one application.) -/
theorem Tryd.strings_Repeat (s : ByteArray) (c : Nat) (w : World) (hc : c ≤ 9223372036854775807) (hlen : s.size * c ≤ 140737488355328) :
    Calls Tryd.prog 55 #[.string s, .int .i64 c] w fun e w' => e = .returned (.string ⟨(Lib.repeatL s.data.toList c).toArray⟩) ∧ Below w.heap.size w w' := Any.strings_Repeat Tryd.lays105 Tryd.Builder_Extra_105 s c w hc hlen
def Tryd.lays260_ren : Go.Shelf.Ren := ⟨fun | 260 => 107 | n => n, fun | 9 => 9 | 21 => 21 | 3 => 3 | 4 => 4 | 5 => 5 | 119 => 129 | 0 => 0 | 46 => 98 | 139 => 135 | 138 => 134 | n => n, fun | 3 => 6 | 4 => 7 | n => n⟩
theorem Tryd.lays260 : Go.Proofs.Lays.n260 Tryd.prog Tryd.lays260_ren := {
  mixed := by kernel_rfl
  f260 := Tryd.func107.trans (congrArg some (by kernel_rfl))
  t0 := Tryd.underlying0
  a0 := Tryd.isAgg0
  z0 := Tryd.sizeOf0
  v0 := Tryd.zeroValue0
  t3 := Tryd.underlying3
  a3 := Tryd.isAgg3
  z3 := Tryd.sizeOf3
  v3 := Tryd.zeroValue3
  t4 := Tryd.underlying4
  a4 := Tryd.isAgg4
  z4 := Tryd.sizeOf4
  v4 := Tryd.zeroValue4
  t5 := Tryd.underlying5
  a5 := Tryd.isAgg5
  z5 := Tryd.sizeOf5
  v5 := Tryd.zeroValue5
  t9 := Tryd.underlying9
  a9 := Tryd.isAgg9
  z9 := Tryd.sizeOf9
  v9 := Tryd.zeroValue9
  t21 := Tryd.underlying21
  a21 := Tryd.isAgg21
  z21 := Tryd.sizeOf21
  v21 := Tryd.zeroValue21
  t46 := Tryd.underlying98
  a46 := Tryd.isAgg98
  z46 := Tryd.sizeOf98
  v46 := Tryd.zeroValue98
  t119 := Tryd.underlying129
  a119 := Tryd.isAgg129
  z119 := Tryd.sizeOf129
  t138 := Tryd.underlying134
  a138 := Tryd.isAgg134
  z138 := Tryd.sizeOf134
  v138 := Tryd.zeroValue134
  t139 := Tryd.underlying135
  a139 := Tryd.isAgg135
  z139 := Tryd.sizeOf135
  v139 := Tryd.zeroValue135
  g3 := by kernel_rfl
  g4 := by kernel_rfl }
open Go.RowKit Go.Lib in
theorem Tryd.utf8_decodeRuneInStringSlow (s : ByteArray) (w : World) (hT : Lib.Utf8Tabs 6 7 w) :
    Calls Tryd.prog 107 #[.string s] w fun e w' => e = .returned (.tuple #[.int .i32 (Lib.decodeGo s).1, .int .i64 (Lib.decodeGo s).2]) ∧ Below w.heap.size w w' := Any.utf8_decodeRuneInStringSlow Tryd.lays260 s w hT
open Go.RowKit Go.Lib in
/-- **unicode/utf8.DecodeRuneInString AT EVERY STRING.** (LAID: no walk: one application.) -/
theorem Tryd.utf8_DecodeRuneInString (s : ByteArray) (w : World) (hT : Lib.Utf8Tabs 6 7 w) :
    Calls Tryd.prog 99 #[.string s] w fun e w' => e = .returned (.tuple #[.int .i32 (Lib.decodeGo s).1, .int .i64 (Lib.decodeGo s).2]) ∧ Below w.heap.size w w' := Any.utf8_DecodeRuneInString Tryd.lays197 s w hT
def Tryd.lays311_ren : Go.Shelf.Ren := ⟨fun | 311 => 112 | n => n, fun | 193 => 139 | 49 => 143 | 4 => 4 | 3 => 3 | 0 => 0 | 226 => 154 | 198 => 145 | 46 => 98 | n => n, fun | n => n⟩
theorem Tryd.lays311 : Go.Proofs.Lays.n311 Tryd.prog Tryd.lays311_ren := {
  mixed := by kernel_rfl
  f311 := Tryd.func112.trans (congrArg some (by kernel_rfl))
  t0 := Tryd.underlying0
  a0 := Tryd.isAgg0
  z0 := Tryd.sizeOf0
  v0 := Tryd.zeroValue0
  t3 := Tryd.underlying3
  a3 := Tryd.isAgg3
  z3 := Tryd.sizeOf3
  v3 := Tryd.zeroValue3
  t4 := Tryd.underlying4
  a4 := Tryd.isAgg4
  z4 := Tryd.sizeOf4
  v4 := Tryd.zeroValue4
  t46 := Tryd.underlying98
  a46 := Tryd.isAgg98
  z46 := Tryd.sizeOf98
  v46 := Tryd.zeroValue98
  t49 := Tryd.underlying143
  a49 := Tryd.isAgg143
  z49 := Tryd.sizeOf143
  v49 := Tryd.zeroValue143
  t193 := Tryd.underlying139
  a193 := Tryd.isAgg139
  z193 := Tryd.sizeOf139
  v193 := Tryd.zeroValue139
  t198 := Tryd.underlying145
  a198 := Tryd.isAgg145
  z198 := Tryd.sizeOf145
  v198 := Tryd.zeroValue145
  t226 := Tryd.underlying154
  a226 := Tryd.isAgg154
  z226 := Tryd.sizeOf154
  v226 := Tryd.zeroValue154 }
open Go.RowKit Go.Lib in
theorem Tryd.unicode_is16_white (R oR : Nat) (z : Nat) (w : World) (hz : z < 65536) (hz0 : 255 < z) (c6 : w.cell? ⟨R, oR + 6, none⟩ = some (.int .u16 160)) (c7 : w.cell? ⟨R, oR + 7, none⟩ = some (.int .u16 5760)) (c8 : w.cell? ⟨R, oR + 8, none⟩ = some (.int .u16 5600)) (c9 : w.cell? ⟨R, oR + 9, none⟩ = some (.int .u16 8192)) (c10 : w.cell? ⟨R, oR + 10, none⟩ = some (.int .u16 8202)) (c11 : w.cell? ⟨R, oR + 11, none⟩ = some (.int .u16 1)) (c12 : w.cell? ⟨R, oR + 12, none⟩ = some (.int .u16 8232)) (c13 : w.cell? ⟨R, oR + 13, none⟩ = some (.int .u16 8233)) (c14 : w.cell? ⟨R, oR + 14, none⟩ = some (.int .u16 1)) (c15 : w.cell? ⟨R, oR + 15, none⟩ = some (.int .u16 8239)) (c16 : w.cell? ⟨R, oR + 16, none⟩ = some (.int .u16 8287)) (c17 : w.cell? ⟨R, oR + 17, none⟩ = some (.int .u16 48)) (c18 : w.cell? ⟨R, oR + 18, none⟩ = some (.int .u16 12288)) (c19 : w.cell? ⟨R, oR + 19, none⟩ = some (.int .u16 12288)) (c20 : w.cell? ⟨R, oR + 20, none⟩ = some (.int .u16 1)) :
    Calls Tryd.prog 112 #[.slice (some ⟨R, oR + 6, none⟩) 5 5, .int .u16 z] w fun e w' => e = .returned (.bool (Lib.isSpaceR z)) ∧ Below w.heap.size w w' := Any.unicode_is16_white Tryd.lays311 R oR z w hz hz0 c6 c7 c8 c9 c10 c11 c12 c13 c14 c15 c16 c17 c18 c19 c20
def Tryd.lays261_ren : Go.Shelf.Ren := ⟨fun | 261 => 109 | 311 => 112 | 312 => 113 | n => n, fun | 141 => 131 | 21 => 21 | 4 => 4 | 0 => 0 | 196 => 142 | 193 => 139 | 3 => 3 | 51 => 111 | 198 => 145 | 49 => 143 | 194 => 140 | 201 => 148 | 226 => 154 | 46 => 98 | 227 => 155 | n => n, fun | n => n⟩
theorem Tryd.lays261 : Go.Proofs.Lays.n261 Tryd.prog Tryd.lays261_ren := {
  mixed := by kernel_rfl
  f261 := Tryd.func109.trans (congrArg some (by kernel_rfl))
  f311 := Tryd.func112.trans (congrArg some (by kernel_rfl))
  f312 := Tryd.func113.trans (congrArg some (by kernel_rfl))
  t0 := Tryd.underlying0
  a0 := Tryd.isAgg0
  z0 := Tryd.sizeOf0
  v0 := Tryd.zeroValue0
  t3 := Tryd.underlying3
  a3 := Tryd.isAgg3
  z3 := Tryd.sizeOf3
  v3 := Tryd.zeroValue3
  t4 := Tryd.underlying4
  a4 := Tryd.isAgg4
  z4 := Tryd.sizeOf4
  v4 := Tryd.zeroValue4
  t21 := Tryd.underlying21
  a21 := Tryd.isAgg21
  z21 := Tryd.sizeOf21
  v21 := Tryd.zeroValue21
  t46 := Tryd.underlying98
  a46 := Tryd.isAgg98
  z46 := Tryd.sizeOf98
  v46 := Tryd.zeroValue98
  t49 := Tryd.underlying143
  a49 := Tryd.isAgg143
  z49 := Tryd.sizeOf143
  v49 := Tryd.zeroValue143
  t51 := Tryd.underlying111
  a51 := Tryd.isAgg111
  z51 := Tryd.sizeOf111
  v51 := Tryd.zeroValue111
  t141 := Tryd.underlying131
  a141 := Tryd.isAgg131
  z141 := Tryd.sizeOf131
  v141 := Tryd.zeroValue131
  t193 := Tryd.underlying139
  a193 := Tryd.isAgg139
  z193 := Tryd.sizeOf139
  v193 := Tryd.zeroValue139
  t194 := Tryd.underlying140
  a194 := Tryd.isAgg140
  z194 := Tryd.sizeOf140
  v194 := Tryd.zeroValue140
  t196 := Tryd.underlying142
  a196 := Tryd.isAgg142
  z196 := Tryd.sizeOf142
  v196 := Tryd.zeroValue142
  t198 := Tryd.underlying145
  a198 := Tryd.isAgg145
  z198 := Tryd.sizeOf145
  v198 := Tryd.zeroValue145
  t201 := Tryd.underlying148
  a201 := Tryd.isAgg148
  z201 := Tryd.sizeOf148
  v201 := Tryd.zeroValue148
  t226 := Tryd.underlying154
  a226 := Tryd.isAgg154
  z226 := Tryd.sizeOf154
  v226 := Tryd.zeroValue154
  t227 := Tryd.underlying155
  a227 := Tryd.isAgg155
  z227 := Tryd.sizeOf155
  v227 := Tryd.zeroValue155 }
open Go.RowKit Go.Lib in
/-- unicode.isExcludingLatin(White_Space, r), r beyond U+00FF or negative. (LAID: no walk: one application.) -/
theorem Tryd.unicode_isExcludingLatin_white (T oT R oR : Nat) (r : Int) (w : World) (hlo : -2147483648 ≤ r) (hhi : r ≤ 2147483647) (hr : r < 0 ∨ 255 < r) (h2 : w.cell? ⟨T, oT, none⟩ = some (.slice (some ⟨R, oR, none⟩) 7 7)) (h3 : w.cell? ⟨T, oT + 1, none⟩ = some (.slice none 0 0)) (h4 : w.cell? ⟨T, oT + 2, none⟩ = some (.int .i64 2)) (h5 : ∀ i, i < 21 → w.cell? ⟨R, oR + i, none⟩ = some (.int .u16 (whiteT.getD i 0))) :
    Calls Tryd.prog 109 #[.pointer (some ⟨T, oT, none⟩), .int .i32 r] w fun e w' => e = .returned (.bool (Lib.isSpaceZ r)) ∧ Below w.heap.size w w' := Any.unicode_isExcludingLatin_white Tryd.lays261 T oT R oR r w hlo hhi hr h2 h3 h4 h5
open Go.RowKit Go.Lib in
/-- **unicode.IsSpace AT EVERY int32.** (LAID: no walk: one application.) -/
theorem Tryd.unicode_IsSpace_any (r : Int) (w : World) (hlo : -2147483648 ≤ r) (hhi : r ≤ 2147483647) (hW : Lib.WhiteTab 5 w) :
    Calls Tryd.prog 105 #[.int .i32 r] w fun e w' => e = .returned (.bool (Lib.isSpaceZ r)) ∧ Below w.heap.size w w' := Any.unicode_IsSpace_any Tryd.lays199 r w hlo hhi hW
def Tryd.lays274_ren : Go.Shelf.Ren := ⟨fun | 274 => 110 | n => n, fun | 21 => 21 | 162 => 128 | 160 => 136 | 3 => 3 | 4 => 4 | 46 => 98 | 0 => 0 | 208 => 153 | 51 => 111 | 206 => 151 | n => n, fun | n => n⟩
theorem Tryd.lays274 : Go.Proofs.Lays.n274 Tryd.prog Tryd.lays274_ren := {
  mixed := by kernel_rfl
  f274 := Tryd.func110.trans (congrArg some (by kernel_rfl))
  t0 := Tryd.underlying0
  a0 := Tryd.isAgg0
  z0 := Tryd.sizeOf0
  v0 := Tryd.zeroValue0
  t3 := Tryd.underlying3
  a3 := Tryd.isAgg3
  z3 := Tryd.sizeOf3
  v3 := Tryd.zeroValue3
  t4 := Tryd.underlying4
  a4 := Tryd.isAgg4
  z4 := Tryd.sizeOf4
  v4 := Tryd.zeroValue4
  t21 := Tryd.underlying21
  a21 := Tryd.isAgg21
  z21 := Tryd.sizeOf21
  v21 := Tryd.zeroValue21
  t46 := Tryd.underlying98
  a46 := Tryd.isAgg98
  z46 := Tryd.sizeOf98
  v46 := Tryd.zeroValue98
  t51 := Tryd.underlying111
  a51 := Tryd.isAgg111
  z51 := Tryd.sizeOf111
  v51 := Tryd.zeroValue111
  t160 := Tryd.underlying136
  a160 := Tryd.isAgg136
  z160 := Tryd.sizeOf136
  v160 := Tryd.zeroValue136
  t162 := Tryd.underlying128
  a162 := Tryd.isAgg128
  z162 := Tryd.sizeOf128
  v162 := Tryd.zeroValue128
  t208 := Tryd.underlying153
  a208 := Tryd.isAgg153
  z208 := Tryd.sizeOf153
  v208 := Tryd.zeroValue153 }
open Go.RowKit Go.Lib in
theorem Tryd.unicode_lookupCaseRange (T : Array CaseRow) (R oR cap : Nat) (r : Int) (w : World) (hT : CaseTab R oR T w) (hok : CaseOk T) (hn : T.size ≤ 1000000000) :
    Calls Tryd.prog 110 #[.int .i32 r, .slice (some ⟨R, oR, none⟩) T.size cap] w fun e w' =>
      e = .returned (match lookupIdx T r (T.size + 1) 0 T.size with | some i => .pointer (some ⟨R, oR + i * 5, none⟩) | none => .pointer none) ∧ w' = w := Any.unicode_lookupCaseRange Tryd.lays274 T R oR cap r w hT hok hn
def Tryd.lays275_ren : Go.Shelf.Ren := ⟨fun | 275 => 111 | n => n, fun | 3 => 3 | 21 => 21 | 160 => 136 | 0 => 0 | 208 => 153 | 206 => 151 | 4 => 4 | 51 => 111 | n => n, fun | n => n⟩
theorem Tryd.lays275 : Go.Proofs.Lays.n275 Tryd.prog Tryd.lays275_ren := {
  mixed := by kernel_rfl
  f275 := Tryd.func111.trans (congrArg some (by kernel_rfl))
  t0 := Tryd.underlying0
  a0 := Tryd.isAgg0
  z0 := Tryd.sizeOf0
  v0 := Tryd.zeroValue0
  t3 := Tryd.underlying3
  a3 := Tryd.isAgg3
  z3 := Tryd.sizeOf3
  v3 := Tryd.zeroValue3
  t4 := Tryd.underlying4
  a4 := Tryd.isAgg4
  z4 := Tryd.sizeOf4
  v4 := Tryd.zeroValue4
  t21 := Tryd.underlying21
  a21 := Tryd.isAgg21
  z21 := Tryd.sizeOf21
  v21 := Tryd.zeroValue21
  t51 := Tryd.underlying111
  a51 := Tryd.isAgg111
  z51 := Tryd.sizeOf111
  v51 := Tryd.zeroValue111
  t160 := Tryd.underlying136
  a160 := Tryd.isAgg136
  z160 := Tryd.sizeOf136
  v160 := Tryd.zeroValue136
  t206 := Tryd.underlying151
  a206 := Tryd.isAgg151
  z206 := Tryd.sizeOf151
  v206 := Tryd.zeroValue151
  t208 := Tryd.underlying153
  a208 := Tryd.isAgg153
  z208 := Tryd.sizeOf153
  v208 := Tryd.zeroValue153 }
open Go.RowKit Go.Lib in
theorem Tryd.unicode_convertCase (c : Nat) (hc : c < 3) (r : Int) (A o : Nat) (x : CaseRow) (w : World) (hlo : (x.1 : Int) ≤ r) (hhi : r ≤ (x.2.1 : Int)) (hH : x.2.1 < 2147483647) (c0 : w.cell? ⟨A, o, none⟩ = some (.int .u32 x.1)) (cD : w.cell? ⟨A, o + 2 + c, none⟩ = some (.int .i32 (x.delta c))) :
    Calls Tryd.prog 111 #[.int .i64 c, .int .i32 r, .pointer (some ⟨A, o, none⟩)] w fun e w' => e = .returned (.int .i32 (wrap32 (convertR c r x))) ∧ ∃ q, w' = w.drewN q := Any.unicode_convertCase Tryd.lays275 c hc r A o x w hlo hhi hH c0 cD
def Tryd.lays313_ren : Go.Shelf.Ren := ⟨fun | 313 => 108 | 274 => 110 | 275 => 111 | n => n, fun | 3 => 3 | 21 => 21 | 162 => 128 | 4 => 4 | 160 => 136 | 46 => 98 | 0 => 0 | 208 => 153 | 51 => 111 | 206 => 151 | n => n, fun | n => n⟩
theorem Tryd.lays313 : Go.Proofs.Lays.n313 Tryd.prog Tryd.lays313_ren := {
  mixed := by kernel_rfl
  f274 := Tryd.func110.trans (congrArg some (by kernel_rfl))
  f275 := Tryd.func111.trans (congrArg some (by kernel_rfl))
  f313 := Tryd.func108.trans (congrArg some (by kernel_rfl))
  t0 := Tryd.underlying0
  a0 := Tryd.isAgg0
  z0 := Tryd.sizeOf0
  v0 := Tryd.zeroValue0
  t3 := Tryd.underlying3
  a3 := Tryd.isAgg3
  z3 := Tryd.sizeOf3
  v3 := Tryd.zeroValue3
  t4 := Tryd.underlying4
  a4 := Tryd.isAgg4
  z4 := Tryd.sizeOf4
  v4 := Tryd.zeroValue4
  t21 := Tryd.underlying21
  a21 := Tryd.isAgg21
  z21 := Tryd.sizeOf21
  v21 := Tryd.zeroValue21
  t46 := Tryd.underlying98
  a46 := Tryd.isAgg98
  z46 := Tryd.sizeOf98
  v46 := Tryd.zeroValue98
  t51 := Tryd.underlying111
  a51 := Tryd.isAgg111
  z51 := Tryd.sizeOf111
  v51 := Tryd.zeroValue111
  t160 := Tryd.underlying136
  a160 := Tryd.isAgg136
  z160 := Tryd.sizeOf136
  v160 := Tryd.zeroValue136
  t162 := Tryd.underlying128
  a162 := Tryd.isAgg128
  z162 := Tryd.sizeOf128
  v162 := Tryd.zeroValue128
  t206 := Tryd.underlying151
  a206 := Tryd.isAgg151
  z206 := Tryd.sizeOf151
  v206 := Tryd.zeroValue151
  t208 := Tryd.underlying153
  a208 := Tryd.isAgg153
  z208 := Tryd.sizeOf153
  v208 := Tryd.zeroValue153 }
open Go.RowKit Go.Lib in
theorem Tryd.unicode_to (c : Nat) (hc : c < 3) (r : Int) (T : Array CaseRow) (R oR cap : Nat) (w : World) (hT : CaseTab R oR T w) (hok : CaseOk2 T) (hn : T.size ≤ 1000000000) :
    Calls Tryd.prog 108 #[.int .i64 c, .int .i32 r, .slice (some ⟨R, oR, none⟩) T.size cap] w fun e w' => e = .returned (.tuple #[.int .i32 (toW T c r), .bool (lookupIdx T r (T.size + 1) 0 T.size).isSome]) ∧ ∃ q, w' = w.drewN q := Any.unicode_to Tryd.lays313 c hc r T R oR cap w hT hok hn
def Tryd.lays262_ren : Go.Shelf.Ren := ⟨fun | 262 => 102 | 313 => 108 | 274 => 110 | 275 => 111 | n => n, fun | 3 => 3 | 21 => 21 | 162 => 128 | 203 => 126 | 4 => 4 | 160 => 136 | 46 => 98 | 0 => 0 | 208 => 153 | 51 => 111 | 206 => 151 | n => n, fun | 13 => 1 | n => n⟩
theorem Tryd.lays262 : Go.Proofs.Lays.n262 Tryd.prog Tryd.lays262_ren := {
  mixed := by kernel_rfl
  f262 := Tryd.func102.trans (congrArg some (by kernel_rfl))
  f274 := Tryd.func110.trans (congrArg some (by kernel_rfl))
  f275 := Tryd.func111.trans (congrArg some (by kernel_rfl))
  f313 := Tryd.func108.trans (congrArg some (by kernel_rfl))
  t0 := Tryd.underlying0
  a0 := Tryd.isAgg0
  z0 := Tryd.sizeOf0
  v0 := Tryd.zeroValue0
  t3 := Tryd.underlying3
  a3 := Tryd.isAgg3
  z3 := Tryd.sizeOf3
  v3 := Tryd.zeroValue3
  t4 := Tryd.underlying4
  a4 := Tryd.isAgg4
  z4 := Tryd.sizeOf4
  v4 := Tryd.zeroValue4
  t21 := Tryd.underlying21
  a21 := Tryd.isAgg21
  z21 := Tryd.sizeOf21
  v21 := Tryd.zeroValue21
  t46 := Tryd.underlying98
  a46 := Tryd.isAgg98
  z46 := Tryd.sizeOf98
  v46 := Tryd.zeroValue98
  t51 := Tryd.underlying111
  a51 := Tryd.isAgg111
  z51 := Tryd.sizeOf111
  v51 := Tryd.zeroValue111
  t160 := Tryd.underlying136
  a160 := Tryd.isAgg136
  z160 := Tryd.sizeOf136
  v160 := Tryd.zeroValue136
  t162 := Tryd.underlying128
  a162 := Tryd.isAgg128
  z162 := Tryd.sizeOf128
  v162 := Tryd.zeroValue128
  t203 := Tryd.underlying126
  a203 := Tryd.isAgg126
  z203 := Tryd.sizeOf126
  v203 := Tryd.zeroValue126
  t206 := Tryd.underlying151
  a206 := Tryd.isAgg151
  z206 := Tryd.sizeOf151
  v206 := Tryd.zeroValue151
  t208 := Tryd.underlying153
  a208 := Tryd.isAgg153
  z208 := Tryd.sizeOf153
  v208 := Tryd.zeroValue153
  g13 := by kernel_rfl }
open Go.RowKit Go.Lib in
theorem Tryd.unicode_To (c : Nat) (hc : c < 3) (r : Int) (T : Array CaseRow) (w : World) (hV : CaseVar 1 T w) (hok : CaseOk2 T) (hn : T.size ≤ 1000000000) :
    Calls Tryd.prog 102 #[.int .i64 c, .int .i32 r] w fun e w' => e = .returned (.int .i32 (toW T c r)) ∧ ∃ q, w' = w.drewN q := Any.unicode_To Tryd.lays262 c hc r T w hV hok hn
open Go.RowKit Go.Lib in
theorem Tryd.unicode_ToLower_any (r : Int) (T : Array CaseRow) (w : World) (hV : CaseVar 1 T w) (hok : CaseOk2 T) (hn : T.size ≤ 1000000000) :
    Calls Tryd.prog 92 #[.int .i32 r] w fun e w' => e = .returned (.int .i32 (Lib.toLowerW T r)) ∧ ∃ q, w' = w.drewN q := Any.unicode_ToLower_any Tryd.lays204 r T w hV hok hn
open Go.RowKit Go.Lib in
theorem Tryd.unicode_ToUpper_any (r : Int) (T : Array CaseRow) (w : World) (hV : CaseVar 1 T w) (hok : CaseOk2 T) (hn : T.size ≤ 1000000000) :
    Calls Tryd.prog 95 #[.int .i32 r] w fun e w' => e = .returned (.int .i32 (Lib.toUpperW T r)) ∧ ∃ q, w' = w.drewN q := Any.unicode_ToUpper_any Tryd.lays203 r T w hV hok hn
open Go.RowKit Go.Lib in
theorem Tryd.unicode_ToLower_laid (r : Int) (w : World) (hV : CaseVar 1 caseA w) :
    Calls Tryd.prog 92 #[.int .i32 r] w fun e w' => e = .returned (.int .i32 (toLowerU r)) ∧ ∃ q, w' = w.drewN q := Any.unicode_ToLower_laid Tryd.lays204 r w hV
open Go.RowKit Go.Lib in
theorem Tryd.unicode_ToUpper_laid (r : Int) (w : World) (hV : CaseVar 1 caseA w) :
    Calls Tryd.prog 95 #[.int .i32 r] w fun e w' => e = .returned (.int .i32 (toUpperU r)) ∧ ∃ q, w' = w.drewN q := Any.unicode_ToUpper_laid Tryd.lays203 r w hV
open Go.RowKit Go.Lib in
theorem Tryd.unicode_is16_any (T : Array Rg) (R oR cap : Nat) (z : Nat) (w : World) (hz : z < 65536) (hT : RgTab .u16 R oR T w) (hok : RgOk 65536 T) (hn : T.size ≤ 1000000000) :
    Calls Tryd.prog 112 #[.slice (some ⟨R, oR, none⟩) T.size cap, .int .u16 z] w fun e w' => e = .returned (.bool (is16Go T z)) ∧ ∃ q, w' = w.drewN q := Any.unicode_is16_any Tryd.lays311 T R oR cap z w hz hT hok hn
def Tryd.lays312_ren : Go.Shelf.Ren := ⟨fun | 312 => 113 | n => n, fun | 194 => 140 | 51 => 111 | 4 => 4 | 3 => 3 | 0 => 0 | 227 => 155 | 201 => 148 | 46 => 98 | n => n, fun | n => n⟩
theorem Tryd.lays312 : Go.Proofs.Lays.n312 Tryd.prog Tryd.lays312_ren := {
  mixed := by kernel_rfl
  f312 := Tryd.func113.trans (congrArg some (by kernel_rfl))
  t0 := Tryd.underlying0
  a0 := Tryd.isAgg0
  z0 := Tryd.sizeOf0
  v0 := Tryd.zeroValue0
  t3 := Tryd.underlying3
  a3 := Tryd.isAgg3
  z3 := Tryd.sizeOf3
  v3 := Tryd.zeroValue3
  t4 := Tryd.underlying4
  a4 := Tryd.isAgg4
  z4 := Tryd.sizeOf4
  v4 := Tryd.zeroValue4
  t46 := Tryd.underlying98
  a46 := Tryd.isAgg98
  z46 := Tryd.sizeOf98
  v46 := Tryd.zeroValue98
  t51 := Tryd.underlying111
  a51 := Tryd.isAgg111
  z51 := Tryd.sizeOf111
  v51 := Tryd.zeroValue111
  t194 := Tryd.underlying140
  a194 := Tryd.isAgg140
  z194 := Tryd.sizeOf140
  v194 := Tryd.zeroValue140
  t201 := Tryd.underlying148
  a201 := Tryd.isAgg148
  z201 := Tryd.sizeOf148
  v201 := Tryd.zeroValue148
  t227 := Tryd.underlying155
  a227 := Tryd.isAgg155
  z227 := Tryd.sizeOf155
  v227 := Tryd.zeroValue155 }
open Go.RowKit Go.Lib in
theorem Tryd.unicode_is32_any (T : Array Rg) (R oR cap : Nat) (z : Nat) (w : World) (hz : z < 4294967296) (hT : RgTab .u32 R oR T w) (hok : RgOk 4294967296 T) (hn : T.size ≤ 1000000000) :
    Calls Tryd.prog 113 #[.slice (some ⟨R, oR, none⟩) T.size cap, .int .u32 z] w fun e w' => e = .returned (.bool (is32Go T z)) ∧ Below w.heap.size w w' := Any.unicode_is32_any Tryd.lays312 T R oR cap z w hz hT hok hn
open Go.RowKit Go.Lib in
theorem Tryd.unicode_isExcludingLatin_any (Tb oT : Nat) (T : RTab) (r : Int) (w : World) (hlo : -2147483648 ≤ r) (hhi : r ≤ 2147483647) (hA : RTabAt Tb oT T w) (hok : RTabOk T) :
    Calls Tryd.prog 109 #[.pointer (some ⟨Tb, oT, none⟩), .int .i32 r] w fun e w' => e = .returned (.bool (exclGo T r)) ∧ Below w.heap.size w w' := Any.unicode_isExcludingLatin_any Tryd.lays261 Tb oT T r w hlo hhi hA hok
open Go.RowKit Go.Lib in
/-- unicode.IsLetter(r) AT EVERY int32, over whatever table the variable unicode.Letter leads to. (LAID: no walk: one application.) -/
theorem Tryd.unicode_IsLetter_any (T : RTab) (r : Int) (w : World) (hlo : -2147483648 ≤ r) (hhi : r ≤ 2147483647) (htab : Lib.TabIs Tryd.prog w "unicode.properties" .u8 Lib.propertiesTab) (hV : RVar 3 T w) (hok : RTabOk T) :
    Calls Tryd.prog 103 #[.int .i32 r] w fun e w' => e = .returned (.bool (if latin1 r then isLetterL r else exclGo T r)) ∧ Below w.heap.size w w' := Any.unicode_IsLetter_any Tryd.lays200 (by kernel_rfl) T r w hlo hhi htab hV hok
open Go.RowKit Go.Lib in
/-- unicode.IsDigit(r) AT EVERY int32, over whatever table the variable unicode.Digit leads to. (LAID: no walk: one application.) -/
theorem Tryd.unicode_IsDigit_any (T : RTab) (r : Int) (w : World) (hlo : -2147483648 ≤ r) (hhi : r ≤ 2147483647) (hV : RVar 4 T w) (hok : RTabOk T) :
    Calls Tryd.prog 104 #[.int .i32 r] w fun e w' => e = .returned (.bool (if r ≤ 255 then isDigitL r else exclGo T r)) ∧ Below w.heap.size w w' := Any.unicode_IsDigit_any Tryd.lays198 T r w hlo hhi hV hok
end Go.Proofs
