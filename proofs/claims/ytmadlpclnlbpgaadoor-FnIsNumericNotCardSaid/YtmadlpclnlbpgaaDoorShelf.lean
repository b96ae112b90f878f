/-
  DERIVED: THE SHELF's CONTRACTS AT THIS DUMP, IN PLAIN WORDS (tools/lay-plain.mjs out of 'YtmadlpclnlbpgaaDoorShelfT.lean', which tools/lay-shelf.mjs wrote): THE SAME DECLARATIONS UNDER THE SAME NAMES: 'import', 'namespace', 'open', 'def', 'theorem' AND NOTHING ELSE: no command of the shelf's: FOR A HAND-IN. Each laying: the table of numbers ('.._ren') and one theorem, a field a fact of the dump's own or the kernel's comparison; each contract: ONE APPLICATION.
-/
import Derived.Shelf.Strings.Builder1
import Derived.Shelf.Strings.Builder2
import Derived.Shelf.Strings.OnBuilder
import Derived.Shelf.Strings.TrimSpace
import Derived.Shelf.Small.Utf8
import Derived.Shelf.Strings.BuilderF
import Derived.Shelf.Unicode.Latin
import Derived.Shelf.Unicode.Decode
import Derived.Shelf.Unicode.DecodeSlow
import Derived.Shelf.Unicode.DecodeAny
import Derived.Shelf.Unicode.Is16White
import Derived.Shelf.Unicode.IsSpaceAny
import Derived.Shelf.Unicode.DecodeLast
import Derived.Shelf.Unicode.CaseLookup
import Derived.Shelf.Unicode.CaseConvert
import Derived.Shelf.Unicode.Is16Any
import Derived.Shelf.Unicode.Is32Any
import Derived.Shelf.Unicode.ExclAny
import Derived.Test.YtmadlpclnlbpgaaDoorProg
namespace Go.Proofs
open Go.Shelf
def Tryd.lays169_ren : Go.Shelf.Ren := ⟨fun | 169 => 27 | n => n, fun | 70 => 46 | 9 => 9 | 0 => 0 | 72 => 48 | 37 => 29 | 127 => 81 | 3 => 3 | 5 => 5 | n => n, fun | n => n⟩
theorem Tryd.lays169 : Go.Proofs.Lays.n169 Tryd.prog Tryd.lays169_ren := {
  mixed := by kernel_rfl
  f169 := Tryd.func27.trans (congrArg some (by kernel_rfl))
  t0 := Tryd.underlying0
  a0 := Tryd.isAgg0
  z0 := Tryd.sizeOf0
  v0 := Tryd.zeroValue0
  t3 := Tryd.underlying3
  a3 := Tryd.isAgg3
  z3 := Tryd.sizeOf3
  v3 := Tryd.zeroValue3
  t9 := Tryd.underlying9
  a9 := Tryd.isAgg9
  z9 := Tryd.sizeOf9
  v9 := Tryd.zeroValue9
  t37 := Tryd.underlying29
  a37 := Tryd.isAgg29
  z37 := Tryd.sizeOf29
  v37 := Tryd.zeroValue29
  t70 := Tryd.underlying46
  a70 := Tryd.isAgg46
  z70 := Tryd.sizeOf46
  v70 := Tryd.zeroValue46
  t72 := Tryd.underlying48
  a72 := Tryd.isAgg48
  z72 := Tryd.sizeOf48
  v72 := Tryd.zeroValue48
  t127 := Tryd.underlying81
  a127 := Tryd.isAgg81
  z127 := Tryd.sizeOf81
  v127 := Tryd.zeroValue81 }
theorem Tryd.Builder_Extra_169 : Builder.Extra Tryd.prog Tryd.lays169_ren := {
  sizeBuilder := by kernel_rfl
  liesBuilder := by kernel_rfl
  t5 := Tryd.underlying5
  a5 := Tryd.isAgg5
  z5 := Tryd.sizeOf5
  v5 := Tryd.zeroValue5
  infoByte := by kernel_rfl
  cellsByte := by kernel_rfl
  sizeByte := by kernel_rfl
  neB5 := by decide }
open Go.RowKit in
/-- (*strings.Builder).String: "String returns the accumulated string.": OF A BUILDER THAT HOLDS AT LEAST ONE BYTE. ✋ THE MODEL FREEZES THOSE BYTES IN THE BUFFER (unsafe.String): a later write INTO them ends the model's run without an answer; a later append BEHIND them goes on. The statement's order of evaluation is drawn: one draw. (LAID: no walk: one application.) -/
theorem Tryd.Builder_String (B b : Nat) (l : List UInt8) (w : World) (h : Lib.IsBuilder 48 5 B b (Lib.byteCells l) w) (h0 : l ≠ []) :
    Calls Tryd.prog 27 #[.pointer (some ⟨b, 0, none⟩)] w fun e w' => e = .returned (.string ⟨l.toArray⟩) ∧ Below B w w' := Any.Builder_String Tryd.lays169 Tryd.Builder_Extra_169 B b l w h h0
open Go.RowKit in
/-- (*strings.Builder).String OF A BUILDER THAT HOLDS NO BYTE: the empty string. (Its buffer is nil, or a row of which it has taken nothing yet; where that row has NO capacity the model lays one new block for unsafe.SliceData's 'some address'.) One draw. (LAID: no walk: one application.) -/
theorem Tryd.Builder_String_empty (B b : Nat) (w : World) (h : Lib.IsBuilder 48 5 B b [] w) (hBw : B ≤ w.heap.size) :
    Calls Tryd.prog 27 #[.pointer (some ⟨b, 0, none⟩)] w fun e w' => e = .returned (.string ⟨#[]⟩) ∧ Below B w w' := Any.Builder_String_empty Tryd.lays169 Tryd.Builder_Extra_169 B b w h hBw
open Go.RowKit in
/-- (*strings.Builder).String: "String returns the accumulated string.": WHATEVER THE BUILDER HOLDS. (LAID: no walk: one application.) -/
theorem Tryd.Builder_String_any (B b : Nat) (l : List UInt8) (w : World) (h : Lib.IsBuilder 48 5 B b (Lib.byteCells l) w) (hBw : B ≤ w.heap.size) :
    Calls Tryd.prog 27 #[.pointer (some ⟨b, 0, none⟩)] w fun e w' => e = .returned (.string ⟨l.toArray⟩) ∧ Below B w w' := Any.Builder_String_any Tryd.lays169 Tryd.Builder_Extra_169 B b l w h hBw
def Tryd.lays241_ren : Go.Shelf.Ren := ⟨fun | 241 => 48 | 277 => 71 | n => n, fun | 70 => 46 | 3 => 3 | 0 => 0 | 72 => 48 | 37 => 29 | 5 => 5 | n => n, fun | n => n⟩
theorem Tryd.lays241 : Go.Proofs.Lays.n241 Tryd.prog Tryd.lays241_ren := {
  mixed := by kernel_rfl
  f241 := Tryd.func48.trans (congrArg some (by kernel_rfl))
  f277 := Tryd.func71.trans (congrArg some (by kernel_rfl))
  t0 := Tryd.underlying0
  a0 := Tryd.isAgg0
  z0 := Tryd.sizeOf0
  v0 := Tryd.zeroValue0
  t3 := Tryd.underlying3
  a3 := Tryd.isAgg3
  z3 := Tryd.sizeOf3
  v3 := Tryd.zeroValue3
  t37 := Tryd.underlying29
  a37 := Tryd.isAgg29
  z37 := Tryd.sizeOf29
  v37 := Tryd.zeroValue29
  t70 := Tryd.underlying46
  a70 := Tryd.isAgg46
  z70 := Tryd.sizeOf46
  v70 := Tryd.zeroValue46
  t72 := Tryd.underlying48
  a72 := Tryd.isAgg48
  z72 := Tryd.sizeOf48
  v72 := Tryd.zeroValue48 }
theorem Tryd.Builder_Extra_241 : Builder.Extra Tryd.prog Tryd.lays241_ren := {
  sizeBuilder := by kernel_rfl
  liesBuilder := by kernel_rfl
  t5 := Tryd.underlying5
  a5 := Tryd.isAgg5
  z5 := Tryd.sizeOf5
  v5 := Tryd.zeroValue5
  infoByte := by kernel_rfl
  cellsByte := by kernel_rfl
  sizeByte := by kernel_rfl
  neB5 := by decide }
open Go.RowKit in
/-- (*strings.Builder).grow (no doc but "grow copies the buffer to a new, larger buffer so that there are at least n bytes of capacity beyond len(b.buf)."): AT A BUILDER WITHOUT A BUFFER: a new row of whatever bytes for its buffer, none of them its own yet. Three draws. (LAID: no walk: one application.) -/
theorem Tryd.Builder_grow_fresh (B b n : Nat) (w : World) (hB : B ≤ b) (hbk : w.heap[b]? = some (.cells #[.pointer (some ⟨b, 0, none⟩), .slice none 0 0] 48 (0, 0))) (hBw : B ≤ w.heap.size) (hn : n ≤ 281474976710656) :
    Calls Tryd.prog 48 #[.pointer (some ⟨b, 0, none⟩), .int .i64 n] w fun e w' => e = .returned (.tuple #[]) ∧ (Lib.BuilderAt 48 5 B b (.pointer (some ⟨b, 0, none⟩)) [] w' ∧ Below B w w') := Any.Builder_grow_fresh Tryd.lays241 Tryd.Builder_Extra_241 B b n w hB hbk hBw hn
def Tryd.lays165_ren : Go.Shelf.Ren := ⟨fun | 165 => 24 | 240 => 47 | 241 => 48 | 276 => 70 | 277 => 71 | n => n, fun | 70 => 46 | 3 => 3 | 0 => 0 | 4 => 4 | 9 => 9 | 20 => 20 | 72 => 48 | 37 => 29 | 164 => 107 | 5 => 5 | n => n, fun | n => n⟩
theorem Tryd.lays165 : Go.Proofs.Lays.n165 Tryd.prog Tryd.lays165_ren := {
  mixed := by kernel_rfl
  f165 := Tryd.func24.trans (congrArg some (by kernel_rfl))
  f240 := Tryd.func47.trans (congrArg some (by kernel_rfl))
  f241 := Tryd.func48.trans (congrArg some (by kernel_rfl))
  f276 := Tryd.func70.trans (congrArg some (by kernel_rfl))
  f277 := Tryd.func71.trans (congrArg some (by kernel_rfl))
  t0 := Tryd.underlying0
  a0 := Tryd.isAgg0
  z0 := Tryd.sizeOf0
  v0 := Tryd.zeroValue0
  t3 := Tryd.underlying3
  a3 := Tryd.isAgg3
  z3 := Tryd.sizeOf3
  v3 := Tryd.zeroValue3
  t4 := Tryd.underlying4
  a4 := Tryd.isAgg4
  z4 := Tryd.sizeOf4
  v4 := Tryd.zeroValue4
  t9 := Tryd.underlying9
  a9 := Tryd.isAgg9
  z9 := Tryd.sizeOf9
  v9 := Tryd.zeroValue9
  t20 := Tryd.underlying20
  a20 := Tryd.isAgg20
  z20 := Tryd.sizeOf20
  v20 := Tryd.zeroValue20
  t37 := Tryd.underlying29
  a37 := Tryd.isAgg29
  z37 := Tryd.sizeOf29
  v37 := Tryd.zeroValue29
  t70 := Tryd.underlying46
  a70 := Tryd.isAgg46
  z70 := Tryd.sizeOf46
  v70 := Tryd.zeroValue46
  t72 := Tryd.underlying48
  a72 := Tryd.isAgg48
  z72 := Tryd.sizeOf48
  v72 := Tryd.zeroValue48
  t164 := Tryd.underlying107
  a164 := Tryd.isAgg107
  z164 := Tryd.sizeOf107
  v164 := Tryd.zeroValue107 }
theorem Tryd.Builder_Extra_165 : Builder.Extra Tryd.prog Tryd.lays165_ren := {
  sizeBuilder := by kernel_rfl
  liesBuilder := by kernel_rfl
  t5 := Tryd.underlying5
  a5 := Tryd.isAgg5
  z5 := Tryd.sizeOf5
  v5 := Tryd.zeroValue5
  infoByte := by kernel_rfl
  cellsByte := by kernel_rfl
  sizeByte := by kernel_rfl
  neB5 := by decide }
open Go.RowKit in
/-- (*strings.Builder).Grow AT A BUILDER THAT HAS NOT BEEN WRITTEN ('var b strings.Builder; b.Grow(n)'): "Grow grows b's capacity, if necessary, to guarantee space for another n bytes.": it holds no byte behind it as before it. (LAID: no walk: one application.) -/
theorem Tryd.Builder_Grow_fresh (B b n : Nat) (w : World) (hB : B ≤ b) (hbk : w.heap[b]? = some (.cells #[.pointer none, .slice none 0 0] 48 (0, 0))) (hBw : B ≤ w.heap.size) (hn : n ≤ 281474976710656) :
    Calls Tryd.prog 24 #[.pointer (some ⟨b, 0, none⟩), .int .i64 n] w fun e w' => e = .returned (.tuple #[]) ∧ (Lib.BuilderAt 48 5 B b (.pointer (some ⟨b, 0, none⟩)) [] w' ∧ Below B w w') := Any.Builder_Grow_fresh Tryd.lays165 Tryd.Builder_Extra_165 B b n w hB hbk hBw hn
def Tryd.lays158_ren : Go.Shelf.Ren := ⟨fun | 158 => 17 | 165 => 24 | 166 => 25 | 167 => 26 | 169 => 27 | 230 => 28 | 203 => 29 | 240 => 47 | 241 => 48 | 197 => 46 | 118 => 49 | 168 => 50 | 270 => 51 | 262 => 52 | 276 => 70 | 277 => 71 | 260 => 69 | 242 => 72 | 313 => 73 | 278 => 79 | 274 => 80 | 275 => 81 | n => n, fun | 9 => 9 | 4 => 4 | 3 => 3 | 5 => 5 | 72 => 48 | 0 => 0 | 76 => 39 | 75 => 38 | 107 => 53 | 70 => 46 | 20 => 20 | 37 => 29 | 127 => 81 | 21 => 21 | 105 => 79 | 164 => 107 | 162 => 113 | 203 => 111 | 119 => 45 | 46 => 91 | 139 => 122 | 138 => 121 | 51 => 62 | 160 => 123 | 208 => 130 | 206 => 128 | 80 => 51 | n => n, fun | 13 => 3 | 3 => 4 | 4 => 5 | n => n⟩
theorem Tryd.lays158 : Go.Proofs.Lays.n158 Tryd.prog Tryd.lays158_ren := {
  mixed := by kernel_rfl
  f118 := Tryd.func49.trans (congrArg some (by kernel_rfl))
  f158 := Tryd.func17.trans (congrArg some (by kernel_rfl))
  f165 := Tryd.func24.trans (congrArg some (by kernel_rfl))
  f166 := Tryd.func25.trans (congrArg some (by kernel_rfl))
  f167 := Tryd.func26.trans (congrArg some (by kernel_rfl))
  f168 := Tryd.func50.trans (congrArg some (by kernel_rfl))
  f169 := Tryd.func27.trans (congrArg some (by kernel_rfl))
  f197 := Tryd.func46.trans (congrArg some (by kernel_rfl))
  f203 := Tryd.func29.trans (congrArg some (by kernel_rfl))
  f230 := Tryd.func28.trans (congrArg some (by kernel_rfl))
  f240 := Tryd.func47.trans (congrArg some (by kernel_rfl))
  f241 := Tryd.func48.trans (congrArg some (by kernel_rfl))
  f242 := Tryd.func72.trans (congrArg some (by kernel_rfl))
  f260 := Tryd.func69.trans (congrArg some (by kernel_rfl))
  f262 := Tryd.func52.trans (congrArg some (by kernel_rfl))
  f270 := Tryd.func51.trans (congrArg some (by kernel_rfl))
  f274 := Tryd.func80.trans (congrArg some (by kernel_rfl))
  f275 := Tryd.func81.trans (congrArg some (by kernel_rfl))
  f276 := Tryd.func70.trans (congrArg some (by kernel_rfl))
  f277 := Tryd.func71.trans (congrArg some (by kernel_rfl))
  f278 := Tryd.func79.trans (congrArg some (by kernel_rfl))
  f313 := Tryd.func73.trans (congrArg some (by kernel_rfl))
  t0 := Tryd.underlying0
  a0 := Tryd.isAgg0
  z0 := Tryd.sizeOf0
  v0 := Tryd.zeroValue0
  t3 := Tryd.underlying3
  a3 := Tryd.isAgg3
  z3 := Tryd.sizeOf3
  v3 := Tryd.zeroValue3
  t4 := Tryd.underlying4
  a4 := Tryd.isAgg4
  z4 := Tryd.sizeOf4
  v4 := Tryd.zeroValue4
  t5 := Tryd.underlying5
  a5 := Tryd.isAgg5
  z5 := Tryd.sizeOf5
  v5 := Tryd.zeroValue5
  t9 := Tryd.underlying9
  a9 := Tryd.isAgg9
  z9 := Tryd.sizeOf9
  v9 := Tryd.zeroValue9
  t20 := Tryd.underlying20
  a20 := Tryd.isAgg20
  z20 := Tryd.sizeOf20
  v20 := Tryd.zeroValue20
  t21 := Tryd.underlying21
  a21 := Tryd.isAgg21
  z21 := Tryd.sizeOf21
  v21 := Tryd.zeroValue21
  t37 := Tryd.underlying29
  a37 := Tryd.isAgg29
  z37 := Tryd.sizeOf29
  v37 := Tryd.zeroValue29
  t46 := Tryd.underlying91
  a46 := Tryd.isAgg91
  z46 := Tryd.sizeOf91
  v46 := Tryd.zeroValue91
  t51 := Tryd.underlying62
  a51 := Tryd.isAgg62
  z51 := Tryd.sizeOf62
  v51 := Tryd.zeroValue62
  t70 := Tryd.underlying46
  a70 := Tryd.isAgg46
  z70 := Tryd.sizeOf46
  v70 := Tryd.zeroValue46
  t72 := Tryd.underlying48
  a72 := Tryd.isAgg48
  z72 := Tryd.sizeOf48
  v72 := Tryd.zeroValue48
  t75 := Tryd.underlying38
  a75 := Tryd.isAgg38
  z75 := Tryd.sizeOf38
  v75 := Tryd.zeroValue38
  t76 := Tryd.underlying39
  a76 := Tryd.isAgg39
  z76 := Tryd.sizeOf39
  v76 := Tryd.zeroValue39
  t105 := Tryd.underlying79
  a105 := Tryd.isAgg79
  z105 := Tryd.sizeOf79
  v105 := Tryd.zeroValue79
  t107 := Tryd.underlying53
  a107 := Tryd.isAgg53
  z107 := Tryd.sizeOf53
  v107 := Tryd.zeroValue53
  t119 := Tryd.underlying45
  a119 := Tryd.isAgg45
  z119 := Tryd.sizeOf45
  t127 := Tryd.underlying81
  a127 := Tryd.isAgg81
  z127 := Tryd.sizeOf81
  v127 := Tryd.zeroValue81
  t138 := Tryd.underlying121
  a138 := Tryd.isAgg121
  z138 := Tryd.sizeOf121
  v138 := Tryd.zeroValue121
  t139 := Tryd.underlying122
  a139 := Tryd.isAgg122
  z139 := Tryd.sizeOf122
  v139 := Tryd.zeroValue122
  t160 := Tryd.underlying123
  a160 := Tryd.isAgg123
  z160 := Tryd.sizeOf123
  v160 := Tryd.zeroValue123
  t162 := Tryd.underlying113
  a162 := Tryd.isAgg113
  z162 := Tryd.sizeOf113
  v162 := Tryd.zeroValue113
  t164 := Tryd.underlying107
  a164 := Tryd.isAgg107
  z164 := Tryd.sizeOf107
  v164 := Tryd.zeroValue107
  t203 := Tryd.underlying111
  a203 := Tryd.isAgg111
  z203 := Tryd.sizeOf111
  v203 := Tryd.zeroValue111
  t206 := Tryd.underlying128
  a206 := Tryd.isAgg128
  z206 := Tryd.sizeOf128
  v206 := Tryd.zeroValue128
  t208 := Tryd.underlying130
  a208 := Tryd.isAgg130
  z208 := Tryd.sizeOf130
  v208 := Tryd.zeroValue130
  g3 := by kernel_rfl
  g4 := by kernel_rfl
  g13 := by kernel_rfl }
theorem Tryd.Builder_Extra_158 : Builder.Extra Tryd.prog Tryd.lays158_ren := {
  sizeBuilder := by kernel_rfl
  liesBuilder := by kernel_rfl
  t5 := Tryd.underlying5
  a5 := Tryd.isAgg5
  z5 := Tryd.sizeOf5
  v5 := Tryd.zeroValue5
  infoByte := by kernel_rfl
  cellsByte := by kernel_rfl
  sizeByte := by kernel_rfl
  neB5 := by decide }
open Go.RowKit in
/-- strings.ToUpper: "ToUpper returns s with all Unicode letters mapped to their upper case.": ON ASCII TEXT OF AT MOST 2^47 BYTES. Below the heap's end the world is as it was: where a letter turns, the call makes a builder and its buffer. (LAID: no walk: one application.) -/
theorem Tryd.strings_ToUpper_ascii (s : ByteArray) (w : World) (hs : s.size ≤ 140737488355328) (hascii : ∀ (j : Nat) (b : UInt8), s.data.toList[j]? = some b → b.toNat < 128) :
    Calls Tryd.prog 17 #[.string s] w fun e w' => e = .returned (.string ⟨(Lib.toUpperA s.data.toList).toArray⟩) ∧ Below w.heap.size w w' := Any.strings_ToUpper_ascii Tryd.lays158 Tryd.Builder_Extra_158 s w hs hascii
def Tryd.lays159_ren : Go.Shelf.Ren := ⟨fun | 159 => 63 | 165 => 24 | 166 => 25 | 167 => 26 | 169 => 27 | 230 => 28 | 204 => 77 | 240 => 47 | 241 => 48 | 197 => 46 | 118 => 49 | 168 => 50 | 270 => 51 | 262 => 52 | 276 => 70 | 277 => 71 | 260 => 69 | 242 => 72 | 313 => 73 | 278 => 79 | 274 => 80 | 275 => 81 | n => n, fun | 9 => 9 | 4 => 4 | 3 => 3 | 5 => 5 | 72 => 48 | 0 => 0 | 76 => 39 | 75 => 38 | 107 => 53 | 70 => 46 | 20 => 20 | 37 => 29 | 127 => 81 | 21 => 21 | 105 => 79 | 164 => 107 | 162 => 113 | 203 => 111 | 119 => 45 | 46 => 91 | 139 => 122 | 138 => 121 | 51 => 62 | 160 => 123 | 208 => 130 | 206 => 128 | 80 => 51 | n => n, fun | 13 => 3 | 3 => 4 | 4 => 5 | n => n⟩
theorem Tryd.lays159 : Go.Proofs.Lays.n159 Tryd.prog Tryd.lays159_ren := {
  mixed := by kernel_rfl
  f118 := Tryd.func49.trans (congrArg some (by kernel_rfl))
  f159 := Tryd.func63.trans (congrArg some (by kernel_rfl))
  f165 := Tryd.func24.trans (congrArg some (by kernel_rfl))
  f166 := Tryd.func25.trans (congrArg some (by kernel_rfl))
  f167 := Tryd.func26.trans (congrArg some (by kernel_rfl))
  f168 := Tryd.func50.trans (congrArg some (by kernel_rfl))
  f169 := Tryd.func27.trans (congrArg some (by kernel_rfl))
  f197 := Tryd.func46.trans (congrArg some (by kernel_rfl))
  f204 := Tryd.func77.trans (congrArg some (by kernel_rfl))
  f230 := Tryd.func28.trans (congrArg some (by kernel_rfl))
  f240 := Tryd.func47.trans (congrArg some (by kernel_rfl))
  f241 := Tryd.func48.trans (congrArg some (by kernel_rfl))
  f242 := Tryd.func72.trans (congrArg some (by kernel_rfl))
  f260 := Tryd.func69.trans (congrArg some (by kernel_rfl))
  f262 := Tryd.func52.trans (congrArg some (by kernel_rfl))
  f270 := Tryd.func51.trans (congrArg some (by kernel_rfl))
  f274 := Tryd.func80.trans (congrArg some (by kernel_rfl))
  f275 := Tryd.func81.trans (congrArg some (by kernel_rfl))
  f276 := Tryd.func70.trans (congrArg some (by kernel_rfl))
  f277 := Tryd.func71.trans (congrArg some (by kernel_rfl))
  f278 := Tryd.func79.trans (congrArg some (by kernel_rfl))
  f313 := Tryd.func73.trans (congrArg some (by kernel_rfl))
  t0 := Tryd.underlying0
  a0 := Tryd.isAgg0
  z0 := Tryd.sizeOf0
  v0 := Tryd.zeroValue0
  t3 := Tryd.underlying3
  a3 := Tryd.isAgg3
  z3 := Tryd.sizeOf3
  v3 := Tryd.zeroValue3
  t4 := Tryd.underlying4
  a4 := Tryd.isAgg4
  z4 := Tryd.sizeOf4
  v4 := Tryd.zeroValue4
  t5 := Tryd.underlying5
  a5 := Tryd.isAgg5
  z5 := Tryd.sizeOf5
  v5 := Tryd.zeroValue5
  t9 := Tryd.underlying9
  a9 := Tryd.isAgg9
  z9 := Tryd.sizeOf9
  v9 := Tryd.zeroValue9
  t20 := Tryd.underlying20
  a20 := Tryd.isAgg20
  z20 := Tryd.sizeOf20
  v20 := Tryd.zeroValue20
  t21 := Tryd.underlying21
  a21 := Tryd.isAgg21
  z21 := Tryd.sizeOf21
  v21 := Tryd.zeroValue21
  t37 := Tryd.underlying29
  a37 := Tryd.isAgg29
  z37 := Tryd.sizeOf29
  v37 := Tryd.zeroValue29
  t46 := Tryd.underlying91
  a46 := Tryd.isAgg91
  z46 := Tryd.sizeOf91
  v46 := Tryd.zeroValue91
  t51 := Tryd.underlying62
  a51 := Tryd.isAgg62
  z51 := Tryd.sizeOf62
  v51 := Tryd.zeroValue62
  t70 := Tryd.underlying46
  a70 := Tryd.isAgg46
  z70 := Tryd.sizeOf46
  v70 := Tryd.zeroValue46
  t72 := Tryd.underlying48
  a72 := Tryd.isAgg48
  z72 := Tryd.sizeOf48
  v72 := Tryd.zeroValue48
  t75 := Tryd.underlying38
  a75 := Tryd.isAgg38
  z75 := Tryd.sizeOf38
  v75 := Tryd.zeroValue38
  t76 := Tryd.underlying39
  a76 := Tryd.isAgg39
  z76 := Tryd.sizeOf39
  v76 := Tryd.zeroValue39
  t105 := Tryd.underlying79
  a105 := Tryd.isAgg79
  z105 := Tryd.sizeOf79
  v105 := Tryd.zeroValue79
  t107 := Tryd.underlying53
  a107 := Tryd.isAgg53
  z107 := Tryd.sizeOf53
  v107 := Tryd.zeroValue53
  t119 := Tryd.underlying45
  a119 := Tryd.isAgg45
  z119 := Tryd.sizeOf45
  t127 := Tryd.underlying81
  a127 := Tryd.isAgg81
  z127 := Tryd.sizeOf81
  v127 := Tryd.zeroValue81
  t138 := Tryd.underlying121
  a138 := Tryd.isAgg121
  z138 := Tryd.sizeOf121
  v138 := Tryd.zeroValue121
  t139 := Tryd.underlying122
  a139 := Tryd.isAgg122
  z139 := Tryd.sizeOf122
  v139 := Tryd.zeroValue122
  t160 := Tryd.underlying123
  a160 := Tryd.isAgg123
  z160 := Tryd.sizeOf123
  v160 := Tryd.zeroValue123
  t162 := Tryd.underlying113
  a162 := Tryd.isAgg113
  z162 := Tryd.sizeOf113
  v162 := Tryd.zeroValue113
  t164 := Tryd.underlying107
  a164 := Tryd.isAgg107
  z164 := Tryd.sizeOf107
  v164 := Tryd.zeroValue107
  t203 := Tryd.underlying111
  a203 := Tryd.isAgg111
  z203 := Tryd.sizeOf111
  v203 := Tryd.zeroValue111
  t206 := Tryd.underlying128
  a206 := Tryd.isAgg128
  z206 := Tryd.sizeOf128
  v206 := Tryd.zeroValue128
  t208 := Tryd.underlying130
  a208 := Tryd.isAgg130
  z208 := Tryd.sizeOf130
  v208 := Tryd.zeroValue130
  g3 := by kernel_rfl
  g4 := by kernel_rfl
  g13 := by kernel_rfl }
theorem Tryd.Builder_Extra_159 : Builder.Extra Tryd.prog Tryd.lays159_ren := {
  sizeBuilder := by kernel_rfl
  liesBuilder := by kernel_rfl
  t5 := Tryd.underlying5
  a5 := Tryd.isAgg5
  z5 := Tryd.sizeOf5
  v5 := Tryd.zeroValue5
  infoByte := by kernel_rfl
  cellsByte := by kernel_rfl
  sizeByte := by kernel_rfl
  neB5 := by decide }
open Go.RowKit in
/-- strings.ToLower: "ToLower returns s with all Unicode letters mapped to their lower case.": ON ASCII TEXT OF AT MOST 2^47 BYTES. Below the heap's end the world is as it was: where a letter turns, the call makes a builder and its buffer. (LAID: no walk: one application.) -/
theorem Tryd.strings_ToLower_ascii (s : ByteArray) (w : World) (hs : s.size ≤ 140737488355328) (hascii : ∀ (j : Nat) (b : UInt8), s.data.toList[j]? = some b → b.toNat < 128) :
    Calls Tryd.prog 63 #[.string s] w fun e w' => e = .returned (.string ⟨(Lib.toLowerA s.data.toList).toArray⟩) ∧ Below w.heap.size w w' := Any.strings_ToLower_ascii Tryd.lays159 Tryd.Builder_Extra_159 s w hs hascii
def Tryd.lays163_ren : Go.Shelf.Ren := ⟨fun | 163 => 16 | 237 => 21 | 199 => 22 | 238 => 23 | 272 => 43 | 261 => 44 | 273 => 45 | 197 => 46 | 315 => 65 | 311 => 66 | 312 => 67 | 271 => 68 | 260 => 69 | 120 => 78 | n => n, fun | 9 => 9 | 37 => 29 | 3 => 3 | 0 => 0 | 5 => 5 | 4 => 4 | 40 => 36 | 119 => 45 | 21 => 21 | 51 => 62 | 141 => 77 | 105 => 79 | 196 => 99 | 193 => 96 | 198 => 102 | 49 => 100 | 194 => 97 | 201 => 105 | 226 => 117 | 46 => 91 | 227 => 118 | 139 => 122 | 138 => 121 | n => n, fun | 0 => 0 | 6 => 1 | 3 => 4 | 4 => 5 | n => n⟩
theorem Tryd.lays163 : Go.Proofs.Lays.n163 Tryd.prog Tryd.lays163_ren := {
  mixed := by kernel_rfl
  f120 := Tryd.func78.trans (congrArg some (by kernel_rfl))
  f163 := Tryd.func16.trans (congrArg some (by kernel_rfl))
  f197 := Tryd.func46.trans (congrArg some (by kernel_rfl))
  f199 := Tryd.func22.trans (congrArg some (by kernel_rfl))
  f237 := Tryd.func21.trans (congrArg some (by kernel_rfl))
  f238 := Tryd.func23.trans (congrArg some (by kernel_rfl))
  f260 := Tryd.func69.trans (congrArg some (by kernel_rfl))
  f261 := Tryd.func44.trans (congrArg some (by kernel_rfl))
  f271 := Tryd.func68.trans (congrArg some (by kernel_rfl))
  f272 := Tryd.func43.trans (congrArg some (by kernel_rfl))
  f273 := Tryd.func45.trans (congrArg some (by kernel_rfl))
  f311 := Tryd.func66.trans (congrArg some (by kernel_rfl))
  f312 := Tryd.func67.trans (congrArg some (by kernel_rfl))
  f315 := Tryd.func65.trans (congrArg some (by kernel_rfl))
  t0 := Tryd.underlying0
  a0 := Tryd.isAgg0
  z0 := Tryd.sizeOf0
  v0 := Tryd.zeroValue0
  t3 := Tryd.underlying3
  a3 := Tryd.isAgg3
  z3 := Tryd.sizeOf3
  v3 := Tryd.zeroValue3
  t4 := Tryd.underlying4
  a4 := Tryd.isAgg4
  z4 := Tryd.sizeOf4
  v4 := Tryd.zeroValue4
  t5 := Tryd.underlying5
  a5 := Tryd.isAgg5
  z5 := Tryd.sizeOf5
  v5 := Tryd.zeroValue5
  t9 := Tryd.underlying9
  a9 := Tryd.isAgg9
  z9 := Tryd.sizeOf9
  v9 := Tryd.zeroValue9
  t21 := Tryd.underlying21
  a21 := Tryd.isAgg21
  z21 := Tryd.sizeOf21
  v21 := Tryd.zeroValue21
  t37 := Tryd.underlying29
  a37 := Tryd.isAgg29
  z37 := Tryd.sizeOf29
  v37 := Tryd.zeroValue29
  t40 := Tryd.underlying36
  a40 := Tryd.isAgg36
  z40 := Tryd.sizeOf36
  v40 := Tryd.zeroValue36
  t46 := Tryd.underlying91
  a46 := Tryd.isAgg91
  z46 := Tryd.sizeOf91
  v46 := Tryd.zeroValue91
  t49 := Tryd.underlying100
  a49 := Tryd.isAgg100
  z49 := Tryd.sizeOf100
  v49 := Tryd.zeroValue100
  t51 := Tryd.underlying62
  a51 := Tryd.isAgg62
  z51 := Tryd.sizeOf62
  v51 := Tryd.zeroValue62
  t105 := Tryd.underlying79
  a105 := Tryd.isAgg79
  z105 := Tryd.sizeOf79
  v105 := Tryd.zeroValue79
  t119 := Tryd.underlying45
  a119 := Tryd.isAgg45
  z119 := Tryd.sizeOf45
  t138 := Tryd.underlying121
  a138 := Tryd.isAgg121
  z138 := Tryd.sizeOf121
  v138 := Tryd.zeroValue121
  t139 := Tryd.underlying122
  a139 := Tryd.isAgg122
  z139 := Tryd.sizeOf122
  v139 := Tryd.zeroValue122
  t141 := Tryd.underlying77
  a141 := Tryd.isAgg77
  z141 := Tryd.sizeOf77
  v141 := Tryd.zeroValue77
  t193 := Tryd.underlying96
  a193 := Tryd.isAgg96
  z193 := Tryd.sizeOf96
  v193 := Tryd.zeroValue96
  t194 := Tryd.underlying97
  a194 := Tryd.isAgg97
  z194 := Tryd.sizeOf97
  v194 := Tryd.zeroValue97
  t196 := Tryd.underlying99
  a196 := Tryd.isAgg99
  z196 := Tryd.sizeOf99
  v196 := Tryd.zeroValue99
  t198 := Tryd.underlying102
  a198 := Tryd.isAgg102
  z198 := Tryd.sizeOf102
  v198 := Tryd.zeroValue102
  t201 := Tryd.underlying105
  a201 := Tryd.isAgg105
  z201 := Tryd.sizeOf105
  v201 := Tryd.zeroValue105
  t226 := Tryd.underlying117
  a226 := Tryd.isAgg117
  z226 := Tryd.sizeOf117
  v226 := Tryd.zeroValue117
  t227 := Tryd.underlying118
  a227 := Tryd.isAgg118
  z227 := Tryd.sizeOf118
  v227 := Tryd.zeroValue118
  g0 := by kernel_rfl
  g3 := by kernel_rfl
  g4 := by kernel_rfl
  g6 := by kernel_rfl }
theorem Tryd.Space_Extra_163 : Space.Extra Tryd.prog Tryd.lays163_ren := {
  gNamed := by kernel_rfl }
open Go.RowKit in
theorem Tryd.strings_TrimSpace (s : ByteArray) (w : World) (hs : s.size ≤ 9223372036854775807) (hascii : ∀ (j : Nat) b, s.data.toList[j]? = some b → b.toNat < 128) (htab : Lib.TabIs Tryd.prog w "strings.asciiSpace" .u8 Lib.asciiSpaceTab) :
    Calls Tryd.prog 16 #[.string s] w fun e w' => e = .returned (.string ⟨(Lib.trimSpace s.data.toList).toArray⟩) ∧ w' = Lib.bytesWorld w 5 s := Any.strings_TrimSpace Tryd.lays163 Tryd.Space_Extra_163 s w hs hascii htab
def Tryd.lays118_ren : Go.Shelf.Ren := ⟨fun | 118 => 49 | n => n, fun | 21 => 21 | 3 => 3 | 4 => 4 | n => n, fun | n => n⟩
theorem Tryd.lays118 : Go.Proofs.Lays.n118 Tryd.prog Tryd.lays118_ren := {
  mixed := by kernel_rfl
  f118 := Tryd.func49.trans (congrArg some (by kernel_rfl))
  t3 := Tryd.underlying3
  a3 := Tryd.isAgg3
  z3 := Tryd.sizeOf3
  v3 := Tryd.zeroValue3
  t4 := Tryd.underlying4
  a4 := Tryd.isAgg4
  z4 := Tryd.sizeOf4
  v4 := Tryd.zeroValue4
  t21 := Tryd.underlying21
  a21 := Tryd.isAgg21
  z21 := Tryd.sizeOf21
  v21 := Tryd.zeroValue21 }
/-- utf8.RuneLen: "RuneLen returns the number of bytes in the UTF-8 encoding of the rune. It returns -1 if the rune is not a valid value to encode in UTF-8.": IT RETURNS 'Lib.runeLen r'; the world is as it was. (LAID: no walk: one application.) -/
theorem Tryd.utf8_RuneLen (r : Int) (w : World) :
    Calls Tryd.prog 49 #[.int .i32 r] w fun e w' => e = .returned (.int .i64 (Lib.runeLen r)) ∧ w' = w := Any.utf8_RuneLen Tryd.lays118 r w
def Tryd.lays120_ren : Go.Shelf.Ren := ⟨fun | 120 => 78 | n => n, fun | 5 => 5 | 4 => 4 | n => n, fun | n => n⟩
theorem Tryd.lays120 : Go.Proofs.Lays.n120 Tryd.prog Tryd.lays120_ren := {
  mixed := by kernel_rfl
  f120 := Tryd.func78.trans (congrArg some (by kernel_rfl))
  t4 := Tryd.underlying4
  a4 := Tryd.isAgg4
  z4 := Tryd.sizeOf4
  v4 := Tryd.zeroValue4
  t5 := Tryd.underlying5
  a5 := Tryd.isAgg5
  z5 := Tryd.sizeOf5
  v5 := Tryd.zeroValue5 }
/-- utf8.RuneStart: "RuneStart reports whether the byte could be the first byte of an encoded, possibly invalid rune. Second and subsequent bytes always have the top two bits set to 10.": IT RETURNS 'Lib.runeStart b'; the world is as it was. ('h0', 'h1': b is a byte: a caller has it of every byte that it was handed.) (LAID: no walk: one application.) -/
theorem Tryd.utf8_RuneStart (b : Int) (w : World) (h0 : 0 ≤ b) (h1 : b < 256) :
    Calls Tryd.prog 78 #[.int .u8 b] w fun e w' => e = .returned (.bool (Lib.runeStart b)) ∧ w' = w := Any.utf8_RuneStart Tryd.lays120 b w h0 h1
open Go.RowKit in
/-- (*strings.Builder).String: "String returns the accumulated string.": OF A BUILDER THAT HOLDS AT LEAST ONE BYTE. ✋ THE MODEL FREEZES THOSE BYTES IN THE BUFFER (unsafe.String): a later write INTO them ends the model's run without an answer; a later append BEHIND them goes on. The statement's order of evaluation is drawn: one draw. THE FORM '_f': IT SAYS BESIDES THAT THE BUILDER IS A BUILDER STILL ('Lib.IsBuilderF', the same bytes): SO IT CAN BE WRITTEN ON: 'b.WriteString(b.String()[:k])'. (LAID: no walk: one application.) -/
theorem Tryd.Builder_String_f (B b : Nat) (l : List UInt8) (w : World) (h : Lib.IsBuilderF 48 5 B b (Lib.byteCells l) w) (h0 : l ≠ []) :
    Calls Tryd.prog 27 #[.pointer (some ⟨b, 0, none⟩)] w fun e w' => e = .returned (.string ⟨l.toArray⟩) ∧ (Lib.IsBuilderF 48 5 B b (Lib.byteCells l) w' ∧ Below B w w') := Any.Builder_String_f Tryd.lays169 Tryd.Builder_Extra_169 B b l w h h0
open Go.RowKit in
/-- (*strings.Builder).String OF A BUILDER THAT HOLDS NO BYTE: the empty string; THE FORM '_f': a builder still. (LAID: no walk: one application.) -/
theorem Tryd.Builder_String_empty_f (B b : Nat) (w : World) (h : Lib.IsBuilderF 48 5 B b [] w) (hBw : B ≤ w.heap.size) :
    Calls Tryd.prog 27 #[.pointer (some ⟨b, 0, none⟩)] w fun e w' => e = .returned (.string ⟨#[]⟩) ∧ (Lib.IsBuilderF 48 5 B b [] w' ∧ Below B w w') := Any.Builder_String_empty_f Tryd.lays169 Tryd.Builder_Extra_169 B b w h hBw
open Go.RowKit in
/-- (*strings.Builder).String: "String returns the accumulated string.": WHATEVER THE BUILDER HOLDS; THE FORM '_f': OF A BUILDER THAT MAY HAVE BEEN READ BEFORE; AND IT IS A BUILDER STILL, holding the same bytes: it can be written on. (LAID: no walk: one application.) -/
theorem Tryd.Builder_String_any_f (B b : Nat) (l : List UInt8) (w : World) (h : Lib.IsBuilderF 48 5 B b (Lib.byteCells l) w) (hBw : B ≤ w.heap.size) :
    Calls Tryd.prog 27 #[.pointer (some ⟨b, 0, none⟩)] w fun e w' => e = .returned (.string ⟨l.toArray⟩) ∧ (Lib.IsBuilderF 48 5 B b (Lib.byteCells l) w' ∧ Below B w w') := Any.Builder_String_any_f Tryd.lays169 Tryd.Builder_Extra_169 B b l w h hBw
def Tryd.lays199_ren : Go.Shelf.Ren := ⟨fun | 199 => 22 | 261 => 44 | 311 => 66 | 312 => 67 | n => n, fun | 21 => 21 | 4 => 4 | 51 => 62 | 141 => 77 | 0 => 0 | 196 => 99 | 193 => 96 | 3 => 3 | 198 => 102 | 49 => 100 | 194 => 97 | 201 => 105 | 226 => 117 | 46 => 91 | 227 => 118 | n => n, fun | 6 => 1 | n => n⟩
theorem Tryd.lays199 : Go.Proofs.Lays.n199 Tryd.prog Tryd.lays199_ren := {
  mixed := by kernel_rfl
  f199 := Tryd.func22.trans (congrArg some (by kernel_rfl))
  f261 := Tryd.func44.trans (congrArg some (by kernel_rfl))
  f311 := Tryd.func66.trans (congrArg some (by kernel_rfl))
  f312 := Tryd.func67.trans (congrArg some (by kernel_rfl))
  t0 := Tryd.underlying0
  a0 := Tryd.isAgg0
  z0 := Tryd.sizeOf0
  v0 := Tryd.zeroValue0
  t3 := Tryd.underlying3
  a3 := Tryd.isAgg3
  z3 := Tryd.sizeOf3
  v3 := Tryd.zeroValue3
  t4 := Tryd.underlying4
  a4 := Tryd.isAgg4
  z4 := Tryd.sizeOf4
  v4 := Tryd.zeroValue4
  t21 := Tryd.underlying21
  a21 := Tryd.isAgg21
  z21 := Tryd.sizeOf21
  v21 := Tryd.zeroValue21
  t46 := Tryd.underlying91
  a46 := Tryd.isAgg91
  z46 := Tryd.sizeOf91
  v46 := Tryd.zeroValue91
  t49 := Tryd.underlying100
  a49 := Tryd.isAgg100
  z49 := Tryd.sizeOf100
  v49 := Tryd.zeroValue100
  t51 := Tryd.underlying62
  a51 := Tryd.isAgg62
  z51 := Tryd.sizeOf62
  v51 := Tryd.zeroValue62
  t141 := Tryd.underlying77
  a141 := Tryd.isAgg77
  z141 := Tryd.sizeOf77
  v141 := Tryd.zeroValue77
  t193 := Tryd.underlying96
  a193 := Tryd.isAgg96
  z193 := Tryd.sizeOf96
  v193 := Tryd.zeroValue96
  t194 := Tryd.underlying97
  a194 := Tryd.isAgg97
  z194 := Tryd.sizeOf97
  v194 := Tryd.zeroValue97
  t196 := Tryd.underlying99
  a196 := Tryd.isAgg99
  z196 := Tryd.sizeOf99
  v196 := Tryd.zeroValue99
  t198 := Tryd.underlying102
  a198 := Tryd.isAgg102
  z198 := Tryd.sizeOf102
  v198 := Tryd.zeroValue102
  t201 := Tryd.underlying105
  a201 := Tryd.isAgg105
  z201 := Tryd.sizeOf105
  v201 := Tryd.zeroValue105
  t226 := Tryd.underlying117
  a226 := Tryd.isAgg117
  z226 := Tryd.sizeOf117
  v226 := Tryd.zeroValue117
  t227 := Tryd.underlying118
  a227 := Tryd.isAgg118
  z227 := Tryd.sizeOf118
  v227 := Tryd.zeroValue118
  g6 := by kernel_rfl }
open Go.RowKit Go.Lib in
theorem Tryd.unicode_IsSpace (r : Int) (w : World) (h0 : 0 ≤ r) (h : r ≤ 255) :
    Calls Tryd.prog 22 #[.int .i32 r] w fun e w' => e = .returned (.bool (Lib.isSpaceL r)) ∧ w' = w := Any.unicode_IsSpace Tryd.lays199 r w h0 h
def Tryd.lays203_ren : Go.Shelf.Ren := ⟨fun | 203 => 29 | 262 => 52 | 313 => 73 | 274 => 80 | 275 => 81 | n => n, fun | 21 => 21 | 4 => 4 | 3 => 3 | 162 => 113 | 203 => 111 | 160 => 123 | 46 => 91 | 0 => 0 | 208 => 130 | 51 => 62 | 206 => 128 | n => n, fun | 13 => 3 | n => n⟩
theorem Tryd.lays203 : Go.Proofs.Lays.n203 Tryd.prog Tryd.lays203_ren := {
  mixed := by kernel_rfl
  f203 := Tryd.func29.trans (congrArg some (by kernel_rfl))
  f262 := Tryd.func52.trans (congrArg some (by kernel_rfl))
  f274 := Tryd.func80.trans (congrArg some (by kernel_rfl))
  f275 := Tryd.func81.trans (congrArg some (by kernel_rfl))
  f313 := Tryd.func73.trans (congrArg some (by kernel_rfl))
  t0 := Tryd.underlying0
  a0 := Tryd.isAgg0
  z0 := Tryd.sizeOf0
  v0 := Tryd.zeroValue0
  t3 := Tryd.underlying3
  a3 := Tryd.isAgg3
  z3 := Tryd.sizeOf3
  v3 := Tryd.zeroValue3
  t4 := Tryd.underlying4
  a4 := Tryd.isAgg4
  z4 := Tryd.sizeOf4
  v4 := Tryd.zeroValue4
  t21 := Tryd.underlying21
  a21 := Tryd.isAgg21
  z21 := Tryd.sizeOf21
  v21 := Tryd.zeroValue21
  t46 := Tryd.underlying91
  a46 := Tryd.isAgg91
  z46 := Tryd.sizeOf91
  v46 := Tryd.zeroValue91
  t51 := Tryd.underlying62
  a51 := Tryd.isAgg62
  z51 := Tryd.sizeOf62
  v51 := Tryd.zeroValue62
  t160 := Tryd.underlying123
  a160 := Tryd.isAgg123
  z160 := Tryd.sizeOf123
  v160 := Tryd.zeroValue123
  t162 := Tryd.underlying113
  a162 := Tryd.isAgg113
  z162 := Tryd.sizeOf113
  v162 := Tryd.zeroValue113
  t203 := Tryd.underlying111
  a203 := Tryd.isAgg111
  z203 := Tryd.sizeOf111
  v203 := Tryd.zeroValue111
  t206 := Tryd.underlying128
  a206 := Tryd.isAgg128
  z206 := Tryd.sizeOf128
  v206 := Tryd.zeroValue128
  t208 := Tryd.underlying130
  a208 := Tryd.isAgg130
  z208 := Tryd.sizeOf130
  v208 := Tryd.zeroValue130
  g13 := by kernel_rfl }
open Go.RowKit Go.Lib in
theorem Tryd.unicode_ToUpper (r : Int) (w : World) (h : r ≤ 127) :
    Calls Tryd.prog 29 #[.int .i32 r] w fun e w' => e = .returned (.int .i32 (Lib.toUpperR r)) ∧ w' = w := Any.unicode_ToUpper Tryd.lays203 r w h
def Tryd.lays204_ren : Go.Shelf.Ren := ⟨fun | 204 => 77 | 262 => 52 | 313 => 73 | 274 => 80 | 275 => 81 | n => n, fun | 21 => 21 | 4 => 4 | 3 => 3 | 162 => 113 | 203 => 111 | 160 => 123 | 46 => 91 | 0 => 0 | 208 => 130 | 51 => 62 | 206 => 128 | n => n, fun | 13 => 3 | n => n⟩
theorem Tryd.lays204 : Go.Proofs.Lays.n204 Tryd.prog Tryd.lays204_ren := {
  mixed := by kernel_rfl
  f204 := Tryd.func77.trans (congrArg some (by kernel_rfl))
  f262 := Tryd.func52.trans (congrArg some (by kernel_rfl))
  f274 := Tryd.func80.trans (congrArg some (by kernel_rfl))
  f275 := Tryd.func81.trans (congrArg some (by kernel_rfl))
  f313 := Tryd.func73.trans (congrArg some (by kernel_rfl))
  t0 := Tryd.underlying0
  a0 := Tryd.isAgg0
  z0 := Tryd.sizeOf0
  v0 := Tryd.zeroValue0
  t3 := Tryd.underlying3
  a3 := Tryd.isAgg3
  z3 := Tryd.sizeOf3
  v3 := Tryd.zeroValue3
  t4 := Tryd.underlying4
  a4 := Tryd.isAgg4
  z4 := Tryd.sizeOf4
  v4 := Tryd.zeroValue4
  t21 := Tryd.underlying21
  a21 := Tryd.isAgg21
  z21 := Tryd.sizeOf21
  v21 := Tryd.zeroValue21
  t46 := Tryd.underlying91
  a46 := Tryd.isAgg91
  z46 := Tryd.sizeOf91
  v46 := Tryd.zeroValue91
  t51 := Tryd.underlying62
  a51 := Tryd.isAgg62
  z51 := Tryd.sizeOf62
  v51 := Tryd.zeroValue62
  t160 := Tryd.underlying123
  a160 := Tryd.isAgg123
  z160 := Tryd.sizeOf123
  v160 := Tryd.zeroValue123
  t162 := Tryd.underlying113
  a162 := Tryd.isAgg113
  z162 := Tryd.sizeOf113
  v162 := Tryd.zeroValue113
  t203 := Tryd.underlying111
  a203 := Tryd.isAgg111
  z203 := Tryd.sizeOf111
  v203 := Tryd.zeroValue111
  t206 := Tryd.underlying128
  a206 := Tryd.isAgg128
  z206 := Tryd.sizeOf128
  v206 := Tryd.zeroValue128
  t208 := Tryd.underlying130
  a208 := Tryd.isAgg130
  z208 := Tryd.sizeOf130
  v208 := Tryd.zeroValue130
  g13 := by kernel_rfl }
open Go.RowKit Go.Lib in
theorem Tryd.unicode_ToLower (r : Int) (w : World) (h : r ≤ 127) :
    Calls Tryd.prog 77 #[.int .i32 r] w fun e w' => e = .returned (.int .i32 (Lib.toLowerR r)) ∧ w' = w := Any.unicode_ToLower Tryd.lays204 r w h
def Tryd.lays197_ren : Go.Shelf.Ren := ⟨fun | 197 => 46 | 260 => 69 | n => n, fun | 9 => 9 | 21 => 21 | 3 => 3 | 4 => 4 | 5 => 5 | 105 => 79 | 119 => 45 | 0 => 0 | 46 => 91 | 139 => 122 | 138 => 121 | n => n, fun | 3 => 4 | 4 => 5 | n => n⟩
theorem Tryd.lays197 : Go.Proofs.Lays.n197 Tryd.prog Tryd.lays197_ren := {
  mixed := by kernel_rfl
  f197 := Tryd.func46.trans (congrArg some (by kernel_rfl))
  f260 := Tryd.func69.trans (congrArg some (by kernel_rfl))
  t0 := Tryd.underlying0
  a0 := Tryd.isAgg0
  z0 := Tryd.sizeOf0
  v0 := Tryd.zeroValue0
  t3 := Tryd.underlying3
  a3 := Tryd.isAgg3
  z3 := Tryd.sizeOf3
  v3 := Tryd.zeroValue3
  t4 := Tryd.underlying4
  a4 := Tryd.isAgg4
  z4 := Tryd.sizeOf4
  v4 := Tryd.zeroValue4
  t5 := Tryd.underlying5
  a5 := Tryd.isAgg5
  z5 := Tryd.sizeOf5
  v5 := Tryd.zeroValue5
  t9 := Tryd.underlying9
  a9 := Tryd.isAgg9
  z9 := Tryd.sizeOf9
  v9 := Tryd.zeroValue9
  t21 := Tryd.underlying21
  a21 := Tryd.isAgg21
  z21 := Tryd.sizeOf21
  v21 := Tryd.zeroValue21
  t46 := Tryd.underlying91
  a46 := Tryd.isAgg91
  z46 := Tryd.sizeOf91
  v46 := Tryd.zeroValue91
  t105 := Tryd.underlying79
  a105 := Tryd.isAgg79
  z105 := Tryd.sizeOf79
  v105 := Tryd.zeroValue79
  t119 := Tryd.underlying45
  a119 := Tryd.isAgg45
  z119 := Tryd.sizeOf45
  t138 := Tryd.underlying121
  a138 := Tryd.isAgg121
  z138 := Tryd.sizeOf121
  v138 := Tryd.zeroValue121
  t139 := Tryd.underlying122
  a139 := Tryd.isAgg122
  z139 := Tryd.sizeOf122
  v139 := Tryd.zeroValue122
  g3 := by kernel_rfl
  g4 := by kernel_rfl }
open Go.RowKit Go.Lib in
/-- unicode/utf8.DecodeRuneInString: "DecodeRuneInString is like DecodeRune but its input is a string.": ("DecodeRune unpacks the first UTF-8 encoding in p and returns the rune and its width in bytes."): WHERE s BEGINS WITH AN ASCII BYTE x: (x, 1). (LAID: no walk: one application.) -/
theorem Tryd.utf8_DecodeRuneInString_ascii (s : ByteArray) (x : UInt8) (w : World) (h0 : s.data.toList[0]? = some x) (hx : x.toNat < 128) :
    Calls Tryd.prog 46 #[.string s] w fun e w' => e = .returned (.tuple #[.int .i32 x.toNat, .int .i64 1]) ∧ w' = w := Any.utf8_DecodeRuneInString_ascii Tryd.lays197 s x w h0 hx
def Tryd.lays260_ren : Go.Shelf.Ren := ⟨fun | 260 => 69 | n => n, fun | 9 => 9 | 21 => 21 | 3 => 3 | 4 => 4 | 5 => 5 | 119 => 45 | 0 => 0 | 46 => 91 | 139 => 122 | 138 => 121 | n => n, fun | 3 => 4 | 4 => 5 | n => n⟩
theorem Tryd.lays260 : Go.Proofs.Lays.n260 Tryd.prog Tryd.lays260_ren := {
  mixed := by kernel_rfl
  f260 := Tryd.func69.trans (congrArg some (by kernel_rfl))
  t0 := Tryd.underlying0
  a0 := Tryd.isAgg0
  z0 := Tryd.sizeOf0
  v0 := Tryd.zeroValue0
  t3 := Tryd.underlying3
  a3 := Tryd.isAgg3
  z3 := Tryd.sizeOf3
  v3 := Tryd.zeroValue3
  t4 := Tryd.underlying4
  a4 := Tryd.isAgg4
  z4 := Tryd.sizeOf4
  v4 := Tryd.zeroValue4
  t5 := Tryd.underlying5
  a5 := Tryd.isAgg5
  z5 := Tryd.sizeOf5
  v5 := Tryd.zeroValue5
  t9 := Tryd.underlying9
  a9 := Tryd.isAgg9
  z9 := Tryd.sizeOf9
  v9 := Tryd.zeroValue9
  t21 := Tryd.underlying21
  a21 := Tryd.isAgg21
  z21 := Tryd.sizeOf21
  v21 := Tryd.zeroValue21
  t46 := Tryd.underlying91
  a46 := Tryd.isAgg91
  z46 := Tryd.sizeOf91
  v46 := Tryd.zeroValue91
  t119 := Tryd.underlying45
  a119 := Tryd.isAgg45
  z119 := Tryd.sizeOf45
  t138 := Tryd.underlying121
  a138 := Tryd.isAgg121
  z138 := Tryd.sizeOf121
  v138 := Tryd.zeroValue121
  t139 := Tryd.underlying122
  a139 := Tryd.isAgg122
  z139 := Tryd.sizeOf122
  v139 := Tryd.zeroValue122
  g3 := by kernel_rfl
  g4 := by kernel_rfl }
open Go.RowKit Go.Lib in
theorem Tryd.utf8_decodeRuneInStringSlow (s : ByteArray) (w : World) (hT : Lib.Utf8Tabs 4 5 w) :
    Calls Tryd.prog 69 #[.string s] w fun e w' => e = .returned (.tuple #[.int .i32 (Lib.decodeGo s).1, .int .i64 (Lib.decodeGo s).2]) ∧ Below w.heap.size w w' := Any.utf8_decodeRuneInStringSlow Tryd.lays260 s w hT
open Go.RowKit Go.Lib in
/-- **unicode/utf8.DecodeRuneInString AT EVERY STRING.** (LAID: no walk: one application.) -/
theorem Tryd.utf8_DecodeRuneInString (s : ByteArray) (w : World) (hT : Lib.Utf8Tabs 4 5 w) :
    Calls Tryd.prog 46 #[.string s] w fun e w' => e = .returned (.tuple #[.int .i32 (Lib.decodeGo s).1, .int .i64 (Lib.decodeGo s).2]) ∧ Below w.heap.size w w' := Any.utf8_DecodeRuneInString Tryd.lays197 s w hT
def Tryd.lays311_ren : Go.Shelf.Ren := ⟨fun | 311 => 66 | n => n, fun | 193 => 96 | 49 => 100 | 4 => 4 | 3 => 3 | 0 => 0 | 226 => 117 | 198 => 102 | 46 => 91 | n => n, fun | n => n⟩
theorem Tryd.lays311 : Go.Proofs.Lays.n311 Tryd.prog Tryd.lays311_ren := {
  mixed := by kernel_rfl
  f311 := Tryd.func66.trans (congrArg some (by kernel_rfl))
  t0 := Tryd.underlying0
  a0 := Tryd.isAgg0
  z0 := Tryd.sizeOf0
  v0 := Tryd.zeroValue0
  t3 := Tryd.underlying3
  a3 := Tryd.isAgg3
  z3 := Tryd.sizeOf3
  v3 := Tryd.zeroValue3
  t4 := Tryd.underlying4
  a4 := Tryd.isAgg4
  z4 := Tryd.sizeOf4
  v4 := Tryd.zeroValue4
  t46 := Tryd.underlying91
  a46 := Tryd.isAgg91
  z46 := Tryd.sizeOf91
  v46 := Tryd.zeroValue91
  t49 := Tryd.underlying100
  a49 := Tryd.isAgg100
  z49 := Tryd.sizeOf100
  v49 := Tryd.zeroValue100
  t193 := Tryd.underlying96
  a193 := Tryd.isAgg96
  z193 := Tryd.sizeOf96
  v193 := Tryd.zeroValue96
  t198 := Tryd.underlying102
  a198 := Tryd.isAgg102
  z198 := Tryd.sizeOf102
  v198 := Tryd.zeroValue102
  t226 := Tryd.underlying117
  a226 := Tryd.isAgg117
  z226 := Tryd.sizeOf117
  v226 := Tryd.zeroValue117 }
open Go.RowKit Go.Lib in
theorem Tryd.unicode_is16_white (R oR : Nat) (z : Nat) (w : World) (hz : z < 65536) (hz0 : 255 < z) (c6 : w.cell? ⟨R, oR + 6, none⟩ = some (.int .u16 160)) (c7 : w.cell? ⟨R, oR + 7, none⟩ = some (.int .u16 5760)) (c8 : w.cell? ⟨R, oR + 8, none⟩ = some (.int .u16 5600)) (c9 : w.cell? ⟨R, oR + 9, none⟩ = some (.int .u16 8192)) (c10 : w.cell? ⟨R, oR + 10, none⟩ = some (.int .u16 8202)) (c11 : w.cell? ⟨R, oR + 11, none⟩ = some (.int .u16 1)) (c12 : w.cell? ⟨R, oR + 12, none⟩ = some (.int .u16 8232)) (c13 : w.cell? ⟨R, oR + 13, none⟩ = some (.int .u16 8233)) (c14 : w.cell? ⟨R, oR + 14, none⟩ = some (.int .u16 1)) (c15 : w.cell? ⟨R, oR + 15, none⟩ = some (.int .u16 8239)) (c16 : w.cell? ⟨R, oR + 16, none⟩ = some (.int .u16 8287)) (c17 : w.cell? ⟨R, oR + 17, none⟩ = some (.int .u16 48)) (c18 : w.cell? ⟨R, oR + 18, none⟩ = some (.int .u16 12288)) (c19 : w.cell? ⟨R, oR + 19, none⟩ = some (.int .u16 12288)) (c20 : w.cell? ⟨R, oR + 20, none⟩ = some (.int .u16 1)) :
    Calls Tryd.prog 66 #[.slice (some ⟨R, oR + 6, none⟩) 5 5, .int .u16 z] w fun e w' => e = .returned (.bool (Lib.isSpaceR z)) ∧ Below w.heap.size w w' := Any.unicode_is16_white Tryd.lays311 R oR z w hz hz0 c6 c7 c8 c9 c10 c11 c12 c13 c14 c15 c16 c17 c18 c19 c20
def Tryd.lays261_ren : Go.Shelf.Ren := ⟨fun | 261 => 44 | 311 => 66 | 312 => 67 | n => n, fun | 141 => 77 | 21 => 21 | 4 => 4 | 0 => 0 | 196 => 99 | 193 => 96 | 3 => 3 | 51 => 62 | 198 => 102 | 49 => 100 | 194 => 97 | 201 => 105 | 226 => 117 | 46 => 91 | 227 => 118 | n => n, fun | n => n⟩
theorem Tryd.lays261 : Go.Proofs.Lays.n261 Tryd.prog Tryd.lays261_ren := {
  mixed := by kernel_rfl
  f261 := Tryd.func44.trans (congrArg some (by kernel_rfl))
  f311 := Tryd.func66.trans (congrArg some (by kernel_rfl))
  f312 := Tryd.func67.trans (congrArg some (by kernel_rfl))
  t0 := Tryd.underlying0
  a0 := Tryd.isAgg0
  z0 := Tryd.sizeOf0
  v0 := Tryd.zeroValue0
  t3 := Tryd.underlying3
  a3 := Tryd.isAgg3
  z3 := Tryd.sizeOf3
  v3 := Tryd.zeroValue3
  t4 := Tryd.underlying4
  a4 := Tryd.isAgg4
  z4 := Tryd.sizeOf4
  v4 := Tryd.zeroValue4
  t21 := Tryd.underlying21
  a21 := Tryd.isAgg21
  z21 := Tryd.sizeOf21
  v21 := Tryd.zeroValue21
  t46 := Tryd.underlying91
  a46 := Tryd.isAgg91
  z46 := Tryd.sizeOf91
  v46 := Tryd.zeroValue91
  t49 := Tryd.underlying100
  a49 := Tryd.isAgg100
  z49 := Tryd.sizeOf100
  v49 := Tryd.zeroValue100
  t51 := Tryd.underlying62
  a51 := Tryd.isAgg62
  z51 := Tryd.sizeOf62
  v51 := Tryd.zeroValue62
  t141 := Tryd.underlying77
  a141 := Tryd.isAgg77
  z141 := Tryd.sizeOf77
  v141 := Tryd.zeroValue77
  t193 := Tryd.underlying96
  a193 := Tryd.isAgg96
  z193 := Tryd.sizeOf96
  v193 := Tryd.zeroValue96
  t194 := Tryd.underlying97
  a194 := Tryd.isAgg97
  z194 := Tryd.sizeOf97
  v194 := Tryd.zeroValue97
  t196 := Tryd.underlying99
  a196 := Tryd.isAgg99
  z196 := Tryd.sizeOf99
  v196 := Tryd.zeroValue99
  t198 := Tryd.underlying102
  a198 := Tryd.isAgg102
  z198 := Tryd.sizeOf102
  v198 := Tryd.zeroValue102
  t201 := Tryd.underlying105
  a201 := Tryd.isAgg105
  z201 := Tryd.sizeOf105
  v201 := Tryd.zeroValue105
  t226 := Tryd.underlying117
  a226 := Tryd.isAgg117
  z226 := Tryd.sizeOf117
  v226 := Tryd.zeroValue117
  t227 := Tryd.underlying118
  a227 := Tryd.isAgg118
  z227 := Tryd.sizeOf118
  v227 := Tryd.zeroValue118 }
open Go.RowKit Go.Lib in
/-- unicode.isExcludingLatin(White_Space, r), r beyond U+00FF or negative. (LAID: no walk: one application.) -/
theorem Tryd.unicode_isExcludingLatin_white (T oT R oR : Nat) (r : Int) (w : World) (hlo : -2147483648 ≤ r) (hhi : r ≤ 2147483647) (hr : r < 0 ∨ 255 < r) (h2 : w.cell? ⟨T, oT, none⟩ = some (.slice (some ⟨R, oR, none⟩) 7 7)) (h3 : w.cell? ⟨T, oT + 1, none⟩ = some (.slice none 0 0)) (h4 : w.cell? ⟨T, oT + 2, none⟩ = some (.int .i64 2)) (h5 : ∀ i, i < 21 → w.cell? ⟨R, oR + i, none⟩ = some (.int .u16 (whiteT.getD i 0))) :
    Calls Tryd.prog 44 #[.pointer (some ⟨T, oT, none⟩), .int .i32 r] w fun e w' => e = .returned (.bool (Lib.isSpaceZ r)) ∧ Below w.heap.size w w' := Any.unicode_isExcludingLatin_white Tryd.lays261 T oT R oR r w hlo hhi hr h2 h3 h4 h5
open Go.RowKit Go.Lib in
/-- **unicode.IsSpace AT EVERY int32.** (LAID: no walk: one application.) -/
theorem Tryd.unicode_IsSpace_any (r : Int) (w : World) (hlo : -2147483648 ≤ r) (hhi : r ≤ 2147483647) (hW : Lib.WhiteTab 1 w) :
    Calls Tryd.prog 22 #[.int .i32 r] w fun e w' => e = .returned (.bool (Lib.isSpaceZ r)) ∧ Below w.heap.size w w' := Any.unicode_IsSpace_any Tryd.lays199 r w hlo hhi hW
def Tryd.lays271_ren : Go.Shelf.Ren := ⟨fun | 271 => 68 | 120 => 78 | 197 => 46 | 260 => 69 | n => n, fun | 9 => 9 | 21 => 21 | 3 => 3 | 4 => 4 | 5 => 5 | 105 => 79 | 119 => 45 | 0 => 0 | 46 => 91 | 139 => 122 | 138 => 121 | n => n, fun | 3 => 4 | 4 => 5 | n => n⟩
theorem Tryd.lays271 : Go.Proofs.Lays.n271 Tryd.prog Tryd.lays271_ren := {
  mixed := by kernel_rfl
  f120 := Tryd.func78.trans (congrArg some (by kernel_rfl))
  f197 := Tryd.func46.trans (congrArg some (by kernel_rfl))
  f260 := Tryd.func69.trans (congrArg some (by kernel_rfl))
  f271 := Tryd.func68.trans (congrArg some (by kernel_rfl))
  t0 := Tryd.underlying0
  a0 := Tryd.isAgg0
  z0 := Tryd.sizeOf0
  v0 := Tryd.zeroValue0
  t3 := Tryd.underlying3
  a3 := Tryd.isAgg3
  z3 := Tryd.sizeOf3
  v3 := Tryd.zeroValue3
  t4 := Tryd.underlying4
  a4 := Tryd.isAgg4
  z4 := Tryd.sizeOf4
  v4 := Tryd.zeroValue4
  t5 := Tryd.underlying5
  a5 := Tryd.isAgg5
  z5 := Tryd.sizeOf5
  v5 := Tryd.zeroValue5
  t9 := Tryd.underlying9
  a9 := Tryd.isAgg9
  z9 := Tryd.sizeOf9
  v9 := Tryd.zeroValue9
  t21 := Tryd.underlying21
  a21 := Tryd.isAgg21
  z21 := Tryd.sizeOf21
  v21 := Tryd.zeroValue21
  t46 := Tryd.underlying91
  a46 := Tryd.isAgg91
  z46 := Tryd.sizeOf91
  v46 := Tryd.zeroValue91
  t105 := Tryd.underlying79
  a105 := Tryd.isAgg79
  z105 := Tryd.sizeOf79
  v105 := Tryd.zeroValue79
  t119 := Tryd.underlying45
  a119 := Tryd.isAgg45
  z119 := Tryd.sizeOf45
  t138 := Tryd.underlying121
  a138 := Tryd.isAgg121
  z138 := Tryd.sizeOf121
  v138 := Tryd.zeroValue121
  t139 := Tryd.underlying122
  a139 := Tryd.isAgg122
  z139 := Tryd.sizeOf122
  v139 := Tryd.zeroValue122
  g3 := by kernel_rfl
  g4 := by kernel_rfl }
open Go.RowKit Go.Lib in
/-- **unicode/utf8.DecodeLastRuneInString AT EVERY STRING.** (LAID: no walk: one application.) -/
theorem Tryd.utf8_DecodeLastRuneInString (s : ByteArray) (w : World) (hs : s.size ≤ 9223372036854775807) (hT : Lib.Utf8Tabs 4 5 w) :
    Calls Tryd.prog 68 #[.string s] w fun e w' => e = .returned (.tuple #[.int .i32 (Lib.decodeLastL s.data.toList).1, .int .i64 (Lib.decodeLastL s.data.toList).2]) ∧ Below w.heap.size w w' := Any.utf8_DecodeLastRuneInString Tryd.lays271 s w hs hT
def Tryd.lays274_ren : Go.Shelf.Ren := ⟨fun | 274 => 80 | n => n, fun | 21 => 21 | 162 => 113 | 160 => 123 | 3 => 3 | 4 => 4 | 46 => 91 | 0 => 0 | 208 => 130 | 51 => 62 | 206 => 128 | n => n, fun | n => n⟩
theorem Tryd.lays274 : Go.Proofs.Lays.n274 Tryd.prog Tryd.lays274_ren := {
  mixed := by kernel_rfl
  f274 := Tryd.func80.trans (congrArg some (by kernel_rfl))
  t0 := Tryd.underlying0
  a0 := Tryd.isAgg0
  z0 := Tryd.sizeOf0
  v0 := Tryd.zeroValue0
  t3 := Tryd.underlying3
  a3 := Tryd.isAgg3
  z3 := Tryd.sizeOf3
  v3 := Tryd.zeroValue3
  t4 := Tryd.underlying4
  a4 := Tryd.isAgg4
  z4 := Tryd.sizeOf4
  v4 := Tryd.zeroValue4
  t21 := Tryd.underlying21
  a21 := Tryd.isAgg21
  z21 := Tryd.sizeOf21
  v21 := Tryd.zeroValue21
  t46 := Tryd.underlying91
  a46 := Tryd.isAgg91
  z46 := Tryd.sizeOf91
  v46 := Tryd.zeroValue91
  t51 := Tryd.underlying62
  a51 := Tryd.isAgg62
  z51 := Tryd.sizeOf62
  v51 := Tryd.zeroValue62
  t160 := Tryd.underlying123
  a160 := Tryd.isAgg123
  z160 := Tryd.sizeOf123
  v160 := Tryd.zeroValue123
  t162 := Tryd.underlying113
  a162 := Tryd.isAgg113
  z162 := Tryd.sizeOf113
  v162 := Tryd.zeroValue113
  t208 := Tryd.underlying130
  a208 := Tryd.isAgg130
  z208 := Tryd.sizeOf130
  v208 := Tryd.zeroValue130 }
open Go.RowKit Go.Lib in
theorem Tryd.unicode_lookupCaseRange (T : Array CaseRow) (R oR cap : Nat) (r : Int) (w : World) (hT : CaseTab R oR T w) (hok : CaseOk T) (hn : T.size ≤ 1000000000) :
    Calls Tryd.prog 80 #[.int .i32 r, .slice (some ⟨R, oR, none⟩) T.size cap] w fun e w' =>
      e = .returned (match lookupIdx T r (T.size + 1) 0 T.size with | some i => .pointer (some ⟨R, oR + i * 5, none⟩) | none => .pointer none) ∧ w' = w := Any.unicode_lookupCaseRange Tryd.lays274 T R oR cap r w hT hok hn
def Tryd.lays275_ren : Go.Shelf.Ren := ⟨fun | 275 => 81 | n => n, fun | 3 => 3 | 21 => 21 | 160 => 123 | 0 => 0 | 208 => 130 | 206 => 128 | 4 => 4 | 51 => 62 | n => n, fun | n => n⟩
theorem Tryd.lays275 : Go.Proofs.Lays.n275 Tryd.prog Tryd.lays275_ren := {
  mixed := by kernel_rfl
  f275 := Tryd.func81.trans (congrArg some (by kernel_rfl))
  t0 := Tryd.underlying0
  a0 := Tryd.isAgg0
  z0 := Tryd.sizeOf0
  v0 := Tryd.zeroValue0
  t3 := Tryd.underlying3
  a3 := Tryd.isAgg3
  z3 := Tryd.sizeOf3
  v3 := Tryd.zeroValue3
  t4 := Tryd.underlying4
  a4 := Tryd.isAgg4
  z4 := Tryd.sizeOf4
  v4 := Tryd.zeroValue4
  t21 := Tryd.underlying21
  a21 := Tryd.isAgg21
  z21 := Tryd.sizeOf21
  v21 := Tryd.zeroValue21
  t51 := Tryd.underlying62
  a51 := Tryd.isAgg62
  z51 := Tryd.sizeOf62
  v51 := Tryd.zeroValue62
  t160 := Tryd.underlying123
  a160 := Tryd.isAgg123
  z160 := Tryd.sizeOf123
  v160 := Tryd.zeroValue123
  t206 := Tryd.underlying128
  a206 := Tryd.isAgg128
  z206 := Tryd.sizeOf128
  v206 := Tryd.zeroValue128
  t208 := Tryd.underlying130
  a208 := Tryd.isAgg130
  z208 := Tryd.sizeOf130
  v208 := Tryd.zeroValue130 }
open Go.RowKit Go.Lib in
theorem Tryd.unicode_convertCase (c : Nat) (hc : c < 3) (r : Int) (A o : Nat) (x : CaseRow) (w : World) (hlo : (x.1 : Int) ≤ r) (hhi : r ≤ (x.2.1 : Int)) (hH : x.2.1 < 2147483647) (c0 : w.cell? ⟨A, o, none⟩ = some (.int .u32 x.1)) (cD : w.cell? ⟨A, o + 2 + c, none⟩ = some (.int .i32 (x.delta c))) :
    Calls Tryd.prog 81 #[.int .i64 c, .int .i32 r, .pointer (some ⟨A, o, none⟩)] w fun e w' => e = .returned (.int .i32 (wrap32 (convertR c r x))) ∧ ∃ q, w' = w.drewN q := Any.unicode_convertCase Tryd.lays275 c hc r A o x w hlo hhi hH c0 cD
open Go.RowKit Go.Lib in
theorem Tryd.unicode_is16_any (T : Array Rg) (R oR cap : Nat) (z : Nat) (w : World) (hz : z < 65536) (hT : RgTab .u16 R oR T w) (hok : RgOk 65536 T) (hn : T.size ≤ 1000000000) :
    Calls Tryd.prog 66 #[.slice (some ⟨R, oR, none⟩) T.size cap, .int .u16 z] w fun e w' => e = .returned (.bool (is16Go T z)) ∧ ∃ q, w' = w.drewN q := Any.unicode_is16_any Tryd.lays311 T R oR cap z w hz hT hok hn
def Tryd.lays312_ren : Go.Shelf.Ren := ⟨fun | 312 => 67 | n => n, fun | 194 => 97 | 51 => 62 | 4 => 4 | 3 => 3 | 0 => 0 | 227 => 118 | 201 => 105 | 46 => 91 | n => n, fun | n => n⟩
theorem Tryd.lays312 : Go.Proofs.Lays.n312 Tryd.prog Tryd.lays312_ren := {
  mixed := by kernel_rfl
  f312 := Tryd.func67.trans (congrArg some (by kernel_rfl))
  t0 := Tryd.underlying0
  a0 := Tryd.isAgg0
  z0 := Tryd.sizeOf0
  v0 := Tryd.zeroValue0
  t3 := Tryd.underlying3
  a3 := Tryd.isAgg3
  z3 := Tryd.sizeOf3
  v3 := Tryd.zeroValue3
  t4 := Tryd.underlying4
  a4 := Tryd.isAgg4
  z4 := Tryd.sizeOf4
  v4 := Tryd.zeroValue4
  t46 := Tryd.underlying91
  a46 := Tryd.isAgg91
  z46 := Tryd.sizeOf91
  v46 := Tryd.zeroValue91
  t51 := Tryd.underlying62
  a51 := Tryd.isAgg62
  z51 := Tryd.sizeOf62
  v51 := Tryd.zeroValue62
  t194 := Tryd.underlying97
  a194 := Tryd.isAgg97
  z194 := Tryd.sizeOf97
  v194 := Tryd.zeroValue97
  t201 := Tryd.underlying105
  a201 := Tryd.isAgg105
  z201 := Tryd.sizeOf105
  v201 := Tryd.zeroValue105
  t227 := Tryd.underlying118
  a227 := Tryd.isAgg118
  z227 := Tryd.sizeOf118
  v227 := Tryd.zeroValue118 }
open Go.RowKit Go.Lib in
theorem Tryd.unicode_is32_any (T : Array Rg) (R oR cap : Nat) (z : Nat) (w : World) (hz : z < 4294967296) (hT : RgTab .u32 R oR T w) (hok : RgOk 4294967296 T) (hn : T.size ≤ 1000000000) :
    Calls Tryd.prog 67 #[.slice (some ⟨R, oR, none⟩) T.size cap, .int .u32 z] w fun e w' => e = .returned (.bool (is32Go T z)) ∧ Below w.heap.size w w' := Any.unicode_is32_any Tryd.lays312 T R oR cap z w hz hT hok hn
open Go.RowKit Go.Lib in
theorem Tryd.unicode_isExcludingLatin_any (Tb oT : Nat) (T : RTab) (r : Int) (w : World) (hlo : -2147483648 ≤ r) (hhi : r ≤ 2147483647) (hA : RTabAt Tb oT T w) (hok : RTabOk T) :
    Calls Tryd.prog 44 #[.pointer (some ⟨Tb, oT, none⟩), .int .i32 r] w fun e w' => e = .returned (.bool (exclGo T r)) ∧ Below w.heap.size w w' := Any.unicode_isExcludingLatin_any Tryd.lays261 Tb oT T r w hlo hhi hA hok
end Go.Proofs
