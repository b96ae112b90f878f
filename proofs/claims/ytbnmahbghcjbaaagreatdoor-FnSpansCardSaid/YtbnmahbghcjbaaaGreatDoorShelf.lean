/-
  DERIVED: THE SHELF's CONTRACTS AT THIS DUMP, IN PLAIN WORDS (tools/lay-plain.mjs out of 'YtbnmahbghcjbaaaGreatDoorShelfT.lean', which tools/lay-shelf.mjs wrote): THE SAME DECLARATIONS UNDER THE SAME NAMES: 'import', 'namespace', 'open', 'def', 'theorem' AND NOTHING ELSE: no command of the shelf's: FOR A HAND-IN. Each laying: the table of numbers ('.._ren') and one theorem, a field a fact of the dump's own or the kernel's comparison; each contract: ONE APPLICATION.
-/
import Derived.Shelf.Strings.Builder1
import Derived.Shelf.Strings.Builder2
import Derived.Shelf.Strings.OnBuilder
import Derived.Shelf.Strings.TrimSpace
import Derived.Shelf.Small.Utf8
import Derived.Shelf.Small.Bits
import Derived.Shelf.Strings.BuilderF
import Derived.Shelf.Strings.BuilderK
import Derived.Shelf.Strings.BuilderRune
import Derived.Shelf.Utf8.AppendRune
import Derived.Shelf.Utf8.AppendRunePlain
import Derived.Shelf.Strings.Builder2Cap
import Derived.Shelf.Strconv.Itoa0
import Derived.Shelf.Sort.Plain
import Derived.Shelf.GgClosure.StringsIndexFunc
import Derived.Shelf.Unicode.Latin
import Derived.Shelf.Unicode.Decode
import Derived.Shelf.Unicode.DecodeSlow
import Derived.Shelf.Unicode.DecodeAny
import Derived.Shelf.Unicode.Is16White
import Derived.Shelf.Unicode.IsSpaceAny
import Derived.Shelf.Unicode.DecodeLast
import Derived.Shelf.Strings.TrimSpaceAny
import Derived.Shelf.Unicode.Is16Any
import Derived.Shelf.Unicode.Is32Any
import Derived.Shelf.Unicode.ExclAny
import Derived.Shelf.Strings.BuilderCap
import Derived.Ground.Names2Prog
import Derived.Shelf.Slices.SearchI
import Derived.Shelf.Slices.In.SortNone
import Derived.Shelf.Slices.In.SortNone2
import Derived.Shelf.Bytes.Small
import Derived.Test.YtbnmahbghcjbaaaGreatDoorProg
namespace Go.Proofs
open Go.Shelf
def Tryz.lays169_ren : Go.Shelf.Ren := ⟨fun | 169 => 18 | n => n, fun | 70 => 27 | 9 => 9 | 0 => 0 | 72 => 30 | 37 => 28 | 127 => 56 | 3 => 3 | 5 => 5 | n => n, fun | n => n⟩
theorem Tryz.lays169 : Go.Proofs.Lays.n169 Tryz.prog Tryz.lays169_ren := {
  mixed := by kernel_rfl
  f169 := Tryz.func18.trans (congrArg some (by kernel_rfl))
  t0 := Tryz.underlying0
  a0 := Tryz.isAgg0
  z0 := Tryz.sizeOf0
  v0 := Tryz.zeroValue0
  t3 := Tryz.underlying3
  a3 := Tryz.isAgg3
  z3 := Tryz.sizeOf3
  v3 := Tryz.zeroValue3
  t9 := Tryz.underlying9
  a9 := Tryz.isAgg9
  z9 := Tryz.sizeOf9
  v9 := Tryz.zeroValue9
  t37 := Tryz.underlying28
  a37 := Tryz.isAgg28
  z37 := Tryz.sizeOf28
  v37 := Tryz.zeroValue28
  t70 := Tryz.underlying27
  a70 := Tryz.isAgg27
  z70 := Tryz.sizeOf27
  v70 := Tryz.zeroValue27
  t72 := Tryz.underlying30
  a72 := Tryz.isAgg30
  z72 := Tryz.sizeOf30
  v72 := Tryz.zeroValue30
  t127 := Tryz.underlying56
  a127 := Tryz.isAgg56
  z127 := Tryz.sizeOf56
  v127 := Tryz.zeroValue56 }
theorem Tryz.Builder_Extra_169 : Builder.Extra Tryz.prog Tryz.lays169_ren := {
  sizeBuilder := by kernel_rfl
  liesBuilder := by kernel_rfl
  t5 := Tryz.underlying5
  a5 := Tryz.isAgg5
  z5 := Tryz.sizeOf5
  v5 := Tryz.zeroValue5
  infoByte := by kernel_rfl
  cellsByte := by kernel_rfl
  sizeByte := by kernel_rfl
  neB5 := by decide }
open Go.RowKit in
/-- (*strings.Builder).String: "String returns the accumulated string.": OF A BUILDER THAT HOLDS AT LEAST ONE BYTE. ✋ THE MODEL FREEZES THOSE BYTES IN THE BUFFER (unsafe.String): a later write INTO them ends the model's run without an answer; a later append BEHIND them goes on. The statement's order of evaluation is drawn: one draw. (LAID: no walk: one application.) -/
theorem Tryz.Builder_String (B b : Nat) (l : List UInt8) (w : World) (h : Lib.IsBuilder 30 5 B b (Lib.byteCells l) w) (h0 : l ≠ []) :
    Calls Tryz.prog 18 #[.pointer (some ⟨b, 0, none⟩)] w fun e w' => e = .returned (.string ⟨l.toArray⟩) ∧ Below B w w' := Any.Builder_String Tryz.lays169 Tryz.Builder_Extra_169 B b l w h h0
open Go.RowKit in
/-- (*strings.Builder).String OF A BUILDER THAT HOLDS NO BYTE: the empty string. (Its buffer is nil, or a row of which it has taken nothing yet; where that row has NO capacity the model lays one new block for unsafe.SliceData's 'some address'.) One draw. (LAID: no walk: one application.) -/
theorem Tryz.Builder_String_empty (B b : Nat) (w : World) (h : Lib.IsBuilder 30 5 B b [] w) (hBw : B ≤ w.heap.size) :
    Calls Tryz.prog 18 #[.pointer (some ⟨b, 0, none⟩)] w fun e w' => e = .returned (.string ⟨#[]⟩) ∧ Below B w w' := Any.Builder_String_empty Tryz.lays169 Tryz.Builder_Extra_169 B b w h hBw
open Go.RowKit in
/-- (*strings.Builder).String: "String returns the accumulated string.": WHATEVER THE BUILDER HOLDS. (LAID: no walk: one application.) -/
theorem Tryz.Builder_String_any (B b : Nat) (l : List UInt8) (w : World) (h : Lib.IsBuilder 30 5 B b (Lib.byteCells l) w) (hBw : B ≤ w.heap.size) :
    Calls Tryz.prog 18 #[.pointer (some ⟨b, 0, none⟩)] w fun e w' => e = .returned (.string ⟨l.toArray⟩) ∧ Below B w w' := Any.Builder_String_any Tryz.lays169 Tryz.Builder_Extra_169 B b l w h hBw
def Tryz.lays241_ren : Go.Shelf.Ren := ⟨fun | 241 => 93 | 277 => 112 | n => n, fun | 70 => 27 | 3 => 3 | 0 => 0 | 72 => 30 | 37 => 28 | 5 => 5 | n => n, fun | n => n⟩
theorem Tryz.lays241 : Go.Proofs.Lays.n241 Tryz.prog Tryz.lays241_ren := {
  mixed := by kernel_rfl
  f241 := Tryz.func93.trans (congrArg some (by kernel_rfl))
  f277 := Tryz.func112.trans (congrArg some (by kernel_rfl))
  t0 := Tryz.underlying0
  a0 := Tryz.isAgg0
  z0 := Tryz.sizeOf0
  v0 := Tryz.zeroValue0
  t3 := Tryz.underlying3
  a3 := Tryz.isAgg3
  z3 := Tryz.sizeOf3
  v3 := Tryz.zeroValue3
  t37 := Tryz.underlying28
  a37 := Tryz.isAgg28
  z37 := Tryz.sizeOf28
  v37 := Tryz.zeroValue28
  t70 := Tryz.underlying27
  a70 := Tryz.isAgg27
  z70 := Tryz.sizeOf27
  v70 := Tryz.zeroValue27
  t72 := Tryz.underlying30
  a72 := Tryz.isAgg30
  z72 := Tryz.sizeOf30
  v72 := Tryz.zeroValue30 }
theorem Tryz.Builder_Extra_241 : Builder.Extra Tryz.prog Tryz.lays241_ren := {
  sizeBuilder := by kernel_rfl
  liesBuilder := by kernel_rfl
  t5 := Tryz.underlying5
  a5 := Tryz.isAgg5
  z5 := Tryz.sizeOf5
  v5 := Tryz.zeroValue5
  infoByte := by kernel_rfl
  cellsByte := by kernel_rfl
  sizeByte := by kernel_rfl
  neB5 := by decide }
open Go.RowKit in
/-- (*strings.Builder).grow (no doc but "grow copies the buffer to a new, larger buffer so that there are at least n bytes of capacity beyond len(b.buf)."): AT A BUILDER WITHOUT A BUFFER: a new row of whatever bytes for its buffer, none of them its own yet. Three draws. (LAID: no walk: one application.) -/
theorem Tryz.Builder_grow_fresh (B b n : Nat) (w : World) (hB : B ≤ b) (hbk : w.heap[b]? = some (.cells #[.pointer (some ⟨b, 0, none⟩), .slice none 0 0] 30 (0, 0))) (hBw : B ≤ w.heap.size) (hn : n ≤ 281474976710656) :
    Calls Tryz.prog 93 #[.pointer (some ⟨b, 0, none⟩), .int .i64 n] w fun e w' => e = .returned (.tuple #[]) ∧ (Lib.BuilderAt 30 5 B b (.pointer (some ⟨b, 0, none⟩)) [] w' ∧ Below B w w') := Any.Builder_grow_fresh Tryz.lays241 Tryz.Builder_Extra_241 B b n w hB hbk hBw hn
def Tryz.lays165_ren : Go.Shelf.Ren := ⟨fun | 165 => 79 | 240 => 32 | 241 => 93 | 276 => 42 | 277 => 112 | n => n, fun | 70 => 27 | 3 => 3 | 0 => 0 | 4 => 4 | 9 => 9 | 20 => 20 | 72 => 30 | 37 => 28 | 164 => 66 | 5 => 5 | n => n, fun | n => n⟩
theorem Tryz.lays165 : Go.Proofs.Lays.n165 Tryz.prog Tryz.lays165_ren := {
  mixed := by kernel_rfl
  f165 := Tryz.func79.trans (congrArg some (by kernel_rfl))
  f240 := Tryz.func32.trans (congrArg some (by kernel_rfl))
  f241 := Tryz.func93.trans (congrArg some (by kernel_rfl))
  f276 := Tryz.func42.trans (congrArg some (by kernel_rfl))
  f277 := Tryz.func112.trans (congrArg some (by kernel_rfl))
  t0 := Tryz.underlying0
  a0 := Tryz.isAgg0
  z0 := Tryz.sizeOf0
  v0 := Tryz.zeroValue0
  t3 := Tryz.underlying3
  a3 := Tryz.isAgg3
  z3 := Tryz.sizeOf3
  v3 := Tryz.zeroValue3
  t4 := Tryz.underlying4
  a4 := Tryz.isAgg4
  z4 := Tryz.sizeOf4
  v4 := Tryz.zeroValue4
  t9 := Tryz.underlying9
  a9 := Tryz.isAgg9
  z9 := Tryz.sizeOf9
  v9 := Tryz.zeroValue9
  t20 := Tryz.underlying20
  a20 := Tryz.isAgg20
  z20 := Tryz.sizeOf20
  v20 := Tryz.zeroValue20
  t37 := Tryz.underlying28
  a37 := Tryz.isAgg28
  z37 := Tryz.sizeOf28
  v37 := Tryz.zeroValue28
  t70 := Tryz.underlying27
  a70 := Tryz.isAgg27
  z70 := Tryz.sizeOf27
  v70 := Tryz.zeroValue27
  t72 := Tryz.underlying30
  a72 := Tryz.isAgg30
  z72 := Tryz.sizeOf30
  v72 := Tryz.zeroValue30
  t164 := Tryz.underlying66
  a164 := Tryz.isAgg66
  z164 := Tryz.sizeOf66
  v164 := Tryz.zeroValue66 }
theorem Tryz.Builder_Extra_165 : Builder.Extra Tryz.prog Tryz.lays165_ren := {
  sizeBuilder := by kernel_rfl
  liesBuilder := by kernel_rfl
  t5 := Tryz.underlying5
  a5 := Tryz.isAgg5
  z5 := Tryz.sizeOf5
  v5 := Tryz.zeroValue5
  infoByte := by kernel_rfl
  cellsByte := by kernel_rfl
  sizeByte := by kernel_rfl
  neB5 := by decide }
open Go.RowKit in
/-- (*strings.Builder).Grow AT A BUILDER THAT HAS NOT BEEN WRITTEN ('var b strings.Builder; b.Grow(n)'): "Grow grows b's capacity, if necessary, to guarantee space for another n bytes.": it holds no byte behind it as before it. (LAID: no walk: one application.) -/
theorem Tryz.Builder_Grow_fresh (B b n : Nat) (w : World) (hB : B ≤ b) (hbk : w.heap[b]? = some (.cells #[.pointer none, .slice none 0 0] 30 (0, 0))) (hBw : B ≤ w.heap.size) (hn : n ≤ 281474976710656) :
    Calls Tryz.prog 79 #[.pointer (some ⟨b, 0, none⟩), .int .i64 n] w fun e w' => e = .returned (.tuple #[]) ∧ (Lib.BuilderAt 30 5 B b (.pointer (some ⟨b, 0, none⟩)) [] w' ∧ Below B w w') := Any.Builder_Grow_fresh Tryz.lays165 Tryz.Builder_Extra_165 B b n w hB hbk hBw hn
def Tryz.lays156_ren : Go.Shelf.Ren := ⟨fun | 156 => 55 | 165 => 79 | 166 => 17 | 169 => 18 | 240 => 32 | 241 => 93 | 276 => 42 | 277 => 112 | n => n, fun | 31 => 59 | 9 => 9 | 3 => 3 | 4 => 4 | 0 => 0 | 20 => 20 | 72 => 30 | 76 => 43 | 70 => 27 | 37 => 28 | 75 => 42 | 127 => 56 | 164 => 66 | 5 => 5 | 80 => 45 | n => n, fun | n => n⟩
theorem Tryz.lays156 : Go.Proofs.Lays.n156 Tryz.prog Tryz.lays156_ren := {
  mixed := by kernel_rfl
  f156 := Tryz.func55.trans (congrArg some (by kernel_rfl))
  f165 := Tryz.func79.trans (congrArg some (by kernel_rfl))
  f166 := Tryz.func17.trans (congrArg some (by kernel_rfl))
  f169 := Tryz.func18.trans (congrArg some (by kernel_rfl))
  f240 := Tryz.func32.trans (congrArg some (by kernel_rfl))
  f241 := Tryz.func93.trans (congrArg some (by kernel_rfl))
  f276 := Tryz.func42.trans (congrArg some (by kernel_rfl))
  f277 := Tryz.func112.trans (congrArg some (by kernel_rfl))
  t0 := Tryz.underlying0
  a0 := Tryz.isAgg0
  z0 := Tryz.sizeOf0
  v0 := Tryz.zeroValue0
  t3 := Tryz.underlying3
  a3 := Tryz.isAgg3
  z3 := Tryz.sizeOf3
  v3 := Tryz.zeroValue3
  t4 := Tryz.underlying4
  a4 := Tryz.isAgg4
  z4 := Tryz.sizeOf4
  v4 := Tryz.zeroValue4
  t9 := Tryz.underlying9
  a9 := Tryz.isAgg9
  z9 := Tryz.sizeOf9
  v9 := Tryz.zeroValue9
  t20 := Tryz.underlying20
  a20 := Tryz.isAgg20
  z20 := Tryz.sizeOf20
  v20 := Tryz.zeroValue20
  t31 := Tryz.underlying59
  a31 := Tryz.isAgg59
  z31 := Tryz.sizeOf59
  v31 := Tryz.zeroValue59
  t37 := Tryz.underlying28
  a37 := Tryz.isAgg28
  z37 := Tryz.sizeOf28
  v37 := Tryz.zeroValue28
  t70 := Tryz.underlying27
  a70 := Tryz.isAgg27
  z70 := Tryz.sizeOf27
  v70 := Tryz.zeroValue27
  t72 := Tryz.underlying30
  a72 := Tryz.isAgg30
  z72 := Tryz.sizeOf30
  v72 := Tryz.zeroValue30
  t75 := Tryz.underlying42
  a75 := Tryz.isAgg42
  z75 := Tryz.sizeOf42
  v75 := Tryz.zeroValue42
  t76 := Tryz.underlying43
  a76 := Tryz.isAgg43
  z76 := Tryz.sizeOf43
  v76 := Tryz.zeroValue43
  t127 := Tryz.underlying56
  a127 := Tryz.isAgg56
  z127 := Tryz.sizeOf56
  v127 := Tryz.zeroValue56
  t164 := Tryz.underlying66
  a164 := Tryz.isAgg66
  z164 := Tryz.sizeOf66
  v164 := Tryz.zeroValue66 }
theorem Tryz.Builder_Extra_156 : Builder.Extra Tryz.prog Tryz.lays156_ren := {
  sizeBuilder := by kernel_rfl
  liesBuilder := by kernel_rfl
  t5 := Tryz.underlying5
  a5 := Tryz.isAgg5
  z5 := Tryz.sizeOf5
  v5 := Tryz.zeroValue5
  infoByte := by kernel_rfl
  cellsByte := by kernel_rfl
  sizeByte := by kernel_rfl
  neB5 := by decide }
open Go.RowKit in
/-- No element: the empty string; the world is as it was. (Whatever the slice's address and capacity: a nil slice too.) (LAID: no walk: one application.) -/
theorem Tryz.strings_Join_none (a : Option Addr) (c : Nat) (sep : ByteArray) (w : World) :
    Calls Tryz.prog 55 #[.slice a 0 c, .string sep] w fun e w' => e = .returned (.string ⟨#[]⟩) ∧ w' = w := Any.strings_Join_none Tryz.lays156 Tryz.Builder_Extra_156 a c sep w
open Go.RowKit in
/-- strings.Join: "Join concatenates the elements of its first argument to create a single string. The separator string sep is placed between elements in the resulting string.": HOWEVER MANY ELEMENTS. Below the heap's end the world is as it was. (LAID: no walk: one application.) -/
theorem Tryz.strings_Join (bk o c : Nat) (xs : List ByteArray) (sep : ByteArray) (w : World) (hcells : ∀ (j : Nat) x, xs[j]? = some x → w.cell? ⟨bk, o + j, none⟩ = some (.string x)) (hbk : bk < w.heap.size) (hN : xs.length ≤ 140737488355328) (hcap : xs.length ≤ c) (hlen : (Lib.join (xs.map (·.data.toList)) sep.data.toList).length ≤ 140737488355328) :
    Calls Tryz.prog 55 #[.slice (some ⟨bk, o, none⟩) xs.length c, .string sep] w fun e w' => e = .returned (.string ⟨(Lib.join (xs.map (·.data.toList)) sep.data.toList).toArray⟩) ∧ Below w.heap.size w w' := Any.strings_Join Tryz.lays156 Tryz.Builder_Extra_156 bk o c xs sep w hcells hbk hN hcap hlen
def Tryz.lays163_ren : Go.Shelf.Ren := ⟨fun | 163 => 45 | 237 => 57 | 199 => 58 | 238 => 59 | 272 => 80 | 261 => 81 | 273 => 82 | 197 => 83 | 315 => 94 | 311 => 95 | 312 => 96 | 271 => 97 | 260 => 98 | 120 => 113 | n => n, fun | 9 => 9 | 37 => 28 | 3 => 3 | 0 => 0 | 5 => 5 | 4 => 4 | 40 => 50 | 119 => 82 | 21 => 21 | 51 => 57 | 141 => 108 | 105 => 110 | 196 => 128 | 193 => 125 | 198 => 131 | 49 => 129 | 194 => 126 | 201 => 134 | 226 => 148 | 46 => 68 | 227 => 149 | 139 => 153 | 138 => 152 | n => n, fun | 0 => 0 | 6 => 1 | 3 => 2 | 4 => 3 | n => n⟩
theorem Tryz.lays163 : Go.Proofs.Lays.n163 Tryz.prog Tryz.lays163_ren := {
  mixed := by kernel_rfl
  f120 := Tryz.func113.trans (congrArg some (by kernel_rfl))
  f163 := Tryz.func45.trans (congrArg some (by kernel_rfl))
  f197 := Tryz.func83.trans (congrArg some (by kernel_rfl))
  f199 := Tryz.func58.trans (congrArg some (by kernel_rfl))
  f237 := Tryz.func57.trans (congrArg some (by kernel_rfl))
  f238 := Tryz.func59.trans (congrArg some (by kernel_rfl))
  f260 := Tryz.func98.trans (congrArg some (by kernel_rfl))
  f261 := Tryz.func81.trans (congrArg some (by kernel_rfl))
  f271 := Tryz.func97.trans (congrArg some (by kernel_rfl))
  f272 := Tryz.func80.trans (congrArg some (by kernel_rfl))
  f273 := Tryz.func82.trans (congrArg some (by kernel_rfl))
  f311 := Tryz.func95.trans (congrArg some (by kernel_rfl))
  f312 := Tryz.func96.trans (congrArg some (by kernel_rfl))
  f315 := Tryz.func94.trans (congrArg some (by kernel_rfl))
  t0 := Tryz.underlying0
  a0 := Tryz.isAgg0
  z0 := Tryz.sizeOf0
  v0 := Tryz.zeroValue0
  t3 := Tryz.underlying3
  a3 := Tryz.isAgg3
  z3 := Tryz.sizeOf3
  v3 := Tryz.zeroValue3
  t4 := Tryz.underlying4
  a4 := Tryz.isAgg4
  z4 := Tryz.sizeOf4
  v4 := Tryz.zeroValue4
  t5 := Tryz.underlying5
  a5 := Tryz.isAgg5
  z5 := Tryz.sizeOf5
  v5 := Tryz.zeroValue5
  t9 := Tryz.underlying9
  a9 := Tryz.isAgg9
  z9 := Tryz.sizeOf9
  v9 := Tryz.zeroValue9
  t21 := Tryz.underlying21
  a21 := Tryz.isAgg21
  z21 := Tryz.sizeOf21
  v21 := Tryz.zeroValue21
  t37 := Tryz.underlying28
  a37 := Tryz.isAgg28
  z37 := Tryz.sizeOf28
  v37 := Tryz.zeroValue28
  t40 := Tryz.underlying50
  a40 := Tryz.isAgg50
  z40 := Tryz.sizeOf50
  v40 := Tryz.zeroValue50
  t46 := Tryz.underlying68
  a46 := Tryz.isAgg68
  z46 := Tryz.sizeOf68
  v46 := Tryz.zeroValue68
  t49 := Tryz.underlying129
  a49 := Tryz.isAgg129
  z49 := Tryz.sizeOf129
  v49 := Tryz.zeroValue129
  t51 := Tryz.underlying57
  a51 := Tryz.isAgg57
  z51 := Tryz.sizeOf57
  v51 := Tryz.zeroValue57
  t105 := Tryz.underlying110
  a105 := Tryz.isAgg110
  z105 := Tryz.sizeOf110
  v105 := Tryz.zeroValue110
  t119 := Tryz.underlying82
  a119 := Tryz.isAgg82
  z119 := Tryz.sizeOf82
  t138 := Tryz.underlying152
  a138 := Tryz.isAgg152
  z138 := Tryz.sizeOf152
  v138 := Tryz.zeroValue152
  t139 := Tryz.underlying153
  a139 := Tryz.isAgg153
  z139 := Tryz.sizeOf153
  v139 := Tryz.zeroValue153
  t141 := Tryz.underlying108
  a141 := Tryz.isAgg108
  z141 := Tryz.sizeOf108
  v141 := Tryz.zeroValue108
  t193 := Tryz.underlying125
  a193 := Tryz.isAgg125
  z193 := Tryz.sizeOf125
  v193 := Tryz.zeroValue125
  t194 := Tryz.underlying126
  a194 := Tryz.isAgg126
  z194 := Tryz.sizeOf126
  v194 := Tryz.zeroValue126
  t196 := Tryz.underlying128
  a196 := Tryz.isAgg128
  z196 := Tryz.sizeOf128
  v196 := Tryz.zeroValue128
  t198 := Tryz.underlying131
  a198 := Tryz.isAgg131
  z198 := Tryz.sizeOf131
  v198 := Tryz.zeroValue131
  t201 := Tryz.underlying134
  a201 := Tryz.isAgg134
  z201 := Tryz.sizeOf134
  v201 := Tryz.zeroValue134
  t226 := Tryz.underlying148
  a226 := Tryz.isAgg148
  z226 := Tryz.sizeOf148
  v226 := Tryz.zeroValue148
  t227 := Tryz.underlying149
  a227 := Tryz.isAgg149
  z227 := Tryz.sizeOf149
  v227 := Tryz.zeroValue149
  g0 := by kernel_rfl
  g3 := by kernel_rfl
  g4 := by kernel_rfl
  g6 := by kernel_rfl }
theorem Tryz.Space_Extra_163 : Space.Extra Tryz.prog Tryz.lays163_ren := {
  gNamed := by kernel_rfl }
open Go.RowKit in
theorem Tryz.strings_TrimSpace (s : ByteArray) (w : World) (hs : s.size ≤ 9223372036854775807) (hascii : ∀ (j : Nat) b, s.data.toList[j]? = some b → b.toNat < 128) (htab : Lib.TabIs Tryz.prog w "strings.asciiSpace" .u8 Lib.asciiSpaceTab) :
    Calls Tryz.prog 45 #[.string s] w fun e w' => e = .returned (.string ⟨(Lib.trimSpace s.data.toList).toArray⟩) ∧ w' = Lib.bytesWorld w 5 s := Any.strings_TrimSpace Tryz.lays163 Tryz.Space_Extra_163 s w hs hascii htab
def Tryz.lays120_ren : Go.Shelf.Ren := ⟨fun | 120 => 113 | n => n, fun | 5 => 5 | 4 => 4 | n => n, fun | n => n⟩
theorem Tryz.lays120 : Go.Proofs.Lays.n120 Tryz.prog Tryz.lays120_ren := {
  mixed := by kernel_rfl
  f120 := Tryz.func113.trans (congrArg some (by kernel_rfl))
  t4 := Tryz.underlying4
  a4 := Tryz.isAgg4
  z4 := Tryz.sizeOf4
  v4 := Tryz.zeroValue4
  t5 := Tryz.underlying5
  a5 := Tryz.isAgg5
  z5 := Tryz.sizeOf5
  v5 := Tryz.zeroValue5 }
/-- utf8.RuneStart: "RuneStart reports whether the byte could be the first byte of an encoded, possibly invalid rune. Second and subsequent bytes always have the top two bits set to 10.": IT RETURNS 'Lib.runeStart b'; the world is as it was. ('h0', 'h1': b is a byte: a caller has it of every byte that it was handed.) (LAID: no walk: one application.) -/
theorem Tryz.utf8_RuneStart (b : Int) (w : World) (h0 : 0 ≤ b) (h1 : b < 256) :
    Calls Tryz.prog 113 #[.int .u8 b] w fun e w' => e = .returned (.bool (Lib.runeStart b)) ∧ w' = w := Any.utf8_RuneStart Tryz.lays120 b w h0 h1
def Tryz.lays128_ren : Go.Shelf.Ren := ⟨fun | 128 => 73 | n => n, fun | 51 => 57 | 3 => 3 | 4 => 4 | 46 => 68 | 5 => 5 | 9 => 9 | n => n, fun | n => n⟩
theorem Tryz.lays128 : Go.Proofs.Lays.n128 Tryz.prog Tryz.lays128_ren := {
  mixed := by kernel_rfl
  f128 := Tryz.func73.trans (congrArg some (by kernel_rfl))
  t3 := Tryz.underlying3
  a3 := Tryz.isAgg3
  z3 := Tryz.sizeOf3
  v3 := Tryz.zeroValue3
  t4 := Tryz.underlying4
  a4 := Tryz.isAgg4
  z4 := Tryz.sizeOf4
  v4 := Tryz.zeroValue4
  t5 := Tryz.underlying5
  a5 := Tryz.isAgg5
  z5 := Tryz.sizeOf5
  v5 := Tryz.zeroValue5
  t9 := Tryz.underlying9
  a9 := Tryz.isAgg9
  z9 := Tryz.sizeOf9
  v9 := Tryz.zeroValue9
  t46 := Tryz.underlying68
  a46 := Tryz.isAgg68
  z46 := Tryz.sizeOf68
  v46 := Tryz.zeroValue68
  t51 := Tryz.underlying57
  a51 := Tryz.isAgg57
  z51 := Tryz.sizeOf57
  v51 := Tryz.zeroValue57 }
/-- bits.Len32: "Len32 returns the minimum number of bits required to represent x; the result is 0 for x == 0.": IT RETURNS 'Lib.bitLen x'; the world is as it was. ('h0', 'h1': x is a uint32.) (LAID: no walk: one application.) -/
theorem Tryz.bits_Len32 (x : Int) (w : World) (h0 : 0 ≤ x) (h1 : x ≤ 4294967295) :
    Calls Tryz.prog 73 #[.int .u32 x] w fun e w' => e = .returned (.int .i64 (Lib.bitLen x.toNat)) ∧ w' = w := Any.bits_Len32 Tryz.lays128 x w h0 h1
def Tryz.lays125_ren : Go.Shelf.Ren := ⟨fun | 125 => 52 | 128 => 73 | 129 => 74 | n => n, fun | 46 => 68 | 3 => 3 | 51 => 57 | 53 => 100 | 4 => 4 | 5 => 5 | 9 => 9 | n => n, fun | n => n⟩
theorem Tryz.lays125 : Go.Proofs.Lays.n125 Tryz.prog Tryz.lays125_ren := {
  mixed := by kernel_rfl
  f125 := Tryz.func52.trans (congrArg some (by kernel_rfl))
  f128 := Tryz.func73.trans (congrArg some (by kernel_rfl))
  f129 := Tryz.func74.trans (congrArg some (by kernel_rfl))
  t3 := Tryz.underlying3
  a3 := Tryz.isAgg3
  z3 := Tryz.sizeOf3
  v3 := Tryz.zeroValue3
  t4 := Tryz.underlying4
  a4 := Tryz.isAgg4
  z4 := Tryz.sizeOf4
  v4 := Tryz.zeroValue4
  t5 := Tryz.underlying5
  a5 := Tryz.isAgg5
  z5 := Tryz.sizeOf5
  v5 := Tryz.zeroValue5
  t9 := Tryz.underlying9
  a9 := Tryz.isAgg9
  z9 := Tryz.sizeOf9
  v9 := Tryz.zeroValue9
  t46 := Tryz.underlying68
  a46 := Tryz.isAgg68
  z46 := Tryz.sizeOf68
  v46 := Tryz.zeroValue68
  t51 := Tryz.underlying57
  a51 := Tryz.isAgg57
  z51 := Tryz.sizeOf57
  v51 := Tryz.zeroValue57
  t53 := Tryz.underlying100
  a53 := Tryz.isAgg100
  z53 := Tryz.sizeOf100
  v53 := Tryz.zeroValue100 }
/-- bits.Len: "Len returns the minimum number of bits required to represent x; the result is 0 for x == 0.": IT RETURNS 'Lib.bitLen x'; the world is as it was. (A uint has 64 bits in the model.) ITS CALLEE bits.Len64 IS MET BY ITS OWN CONTRACT OFF THE SHELF (lay that first). (LAID: no walk: one application.) -/
theorem Tryz.bits_Len (x : Int) (w : World) (h0 : 0 ≤ x) (h1 : x ≤ 18446744073709551615) :
    Calls Tryz.prog 52 #[.int .u64 x] w fun e w' => e = .returned (.int .i64 (Lib.bitLen x.toNat)) ∧ w' = w := Any.bits_Len Tryz.lays125 x w h0 h1
open Go.RowKit in
/-- (*strings.Builder).String: "String returns the accumulated string.": OF A BUILDER THAT HOLDS AT LEAST ONE BYTE. ✋ THE MODEL FREEZES THOSE BYTES IN THE BUFFER (unsafe.String): a later write INTO them ends the model's run without an answer; a later append BEHIND them goes on. The statement's order of evaluation is drawn: one draw. THE FORM '_f': IT SAYS BESIDES THAT THE BUILDER IS A BUILDER STILL ('Lib.IsBuilderF', the same bytes): SO IT CAN BE WRITTEN ON: 'b.WriteString(b.String()[:k])'. (LAID: no walk: one application.) -/
theorem Tryz.Builder_String_f (B b : Nat) (l : List UInt8) (w : World) (h : Lib.IsBuilderF 30 5 B b (Lib.byteCells l) w) (h0 : l ≠ []) :
    Calls Tryz.prog 18 #[.pointer (some ⟨b, 0, none⟩)] w fun e w' => e = .returned (.string ⟨l.toArray⟩) ∧ (Lib.IsBuilderF 30 5 B b (Lib.byteCells l) w' ∧ Below B w w') := Any.Builder_String_f Tryz.lays169 Tryz.Builder_Extra_169 B b l w h h0
open Go.RowKit in
/-- (*strings.Builder).String OF A BUILDER THAT HOLDS NO BYTE: the empty string; THE FORM '_f': a builder still. (LAID: no walk: one application.) -/
theorem Tryz.Builder_String_empty_f (B b : Nat) (w : World) (h : Lib.IsBuilderF 30 5 B b [] w) (hBw : B ≤ w.heap.size) :
    Calls Tryz.prog 18 #[.pointer (some ⟨b, 0, none⟩)] w fun e w' => e = .returned (.string ⟨#[]⟩) ∧ (Lib.IsBuilderF 30 5 B b [] w' ∧ Below B w w') := Any.Builder_String_empty_f Tryz.lays169 Tryz.Builder_Extra_169 B b w h hBw
open Go.RowKit in
/-- (*strings.Builder).String: "String returns the accumulated string.": WHATEVER THE BUILDER HOLDS; THE FORM '_f': OF A BUILDER THAT MAY HAVE BEEN READ BEFORE; AND IT IS A BUILDER STILL, holding the same bytes: it can be written on. (LAID: no walk: one application.) -/
theorem Tryz.Builder_String_any_f (B b : Nat) (l : List UInt8) (w : World) (h : Lib.IsBuilderF 30 5 B b (Lib.byteCells l) w) (hBw : B ≤ w.heap.size) :
    Calls Tryz.prog 18 #[.pointer (some ⟨b, 0, none⟩)] w fun e w' => e = .returned (.string ⟨l.toArray⟩) ∧ (Lib.IsBuilderF 30 5 B b (Lib.byteCells l) w' ∧ Below B w w') := Any.Builder_String_any_f Tryz.lays169 Tryz.Builder_Extra_169 B b l w h hBw
open Go.RowKit in
/-- (*strings.Builder).String: "String returns the accumulated string.": OF A BUILDER THAT HOLDS AT LEAST ONE BYTE. ✋ THE MODEL FREEZES THOSE BYTES IN THE BUFFER (unsafe.String): a later write INTO them ends the model's run without an answer; a later append BEHIND them goes on. The statement's order of evaluation is drawn: one draw. THE FORM '_k': OVER 'Lib.IsBuilderF' (a builder that 'String()' may have read), AND WITH THE FRAME THAT REACHES ABOVE THE BUILDER: 'Lib.OthersKept': every block that is not b and is no row of uint8's stands as it stood: the iterator of a range among them. (LAID: no walk: one application.) -/
theorem Tryz.Builder_String_k (B b : Nat) (l : List UInt8) (w : World) (h : Lib.IsBuilderF 30 5 B b (Lib.byteCells l) w) (h0 : l ≠ []) :
    Calls Tryz.prog 18 #[.pointer (some ⟨b, 0, none⟩)] w fun e w' => e = .returned (.string ⟨l.toArray⟩) ∧ (Lib.IsBuilderF 30 5 B b (Lib.byteCells l) w' ∧ Below B w w' ∧ Lib.OthersKept 5 (some b) w w') := Any.Builder_String_k Tryz.lays169 Tryz.Builder_Extra_169 B b l w h h0
open Go.RowKit in
/-- (*strings.Builder).String OF A BUILDER THAT HOLDS NO BYTE: the empty string; THE FORM '_k': OVER 'Lib.IsBuilderF' (a builder that 'String()' may have read), AND WITH THE FRAME THAT REACHES ABOVE THE BUILDER: 'Lib.OthersKept': every block that is not b and is no row of uint8's stands as it stood: the iterator of a range among them. (LAID: no walk: one application.) -/
theorem Tryz.Builder_String_empty_k (B b : Nat) (w : World) (h : Lib.IsBuilderF 30 5 B b [] w) (hBw : B ≤ w.heap.size) :
    Calls Tryz.prog 18 #[.pointer (some ⟨b, 0, none⟩)] w fun e w' => e = .returned (.string ⟨#[]⟩) ∧ (Lib.IsBuilderF 30 5 B b [] w' ∧ Below B w w' ∧ Lib.OthersKept 5 (some b) w w') := Any.Builder_String_empty_k Tryz.lays169 Tryz.Builder_Extra_169 B b w h hBw
open Go.RowKit in
/-- (*strings.Builder).String: "String returns the accumulated string.": WHATEVER THE BUILDER HOLDS; THE FORM '_k': OVER 'Lib.IsBuilderF' (a builder that 'String()' may have read), AND WITH THE FRAME THAT REACHES ABOVE THE BUILDER: 'Lib.OthersKept': every block that is not b and is no row of uint8's stands as it stood: the iterator of a range among them. (LAID: no walk: one application.) -/
theorem Tryz.Builder_String_any_k (B b : Nat) (l : List UInt8) (w : World) (h : Lib.IsBuilderF 30 5 B b (Lib.byteCells l) w) (hBw : B ≤ w.heap.size) :
    Calls Tryz.prog 18 #[.pointer (some ⟨b, 0, none⟩)] w fun e w' => e = .returned (.string ⟨l.toArray⟩) ∧ (Lib.IsBuilderF 30 5 B b (Lib.byteCells l) w' ∧ Below B w w' ∧ Lib.OthersKept 5 (some b) w w') := Any.Builder_String_any_k Tryz.lays169 Tryz.Builder_Extra_169 B b l w h hBw
def Tryz.lays278_ren : Go.Shelf.Ren := ⟨fun | 278 => 33 | n => n, fun | 37 => 28 | 21 => 21 | 51 => 57 | 4 => 4 | 46 => 68 | 5 => 5 | n => n, fun | n => n⟩
theorem Tryz.lays278 : Go.Proofs.Lays.n278 Tryz.prog Tryz.lays278_ren := {
  mixed := by kernel_rfl
  f278 := Tryz.func33.trans (congrArg some (by kernel_rfl))
  t4 := Tryz.underlying4
  a4 := Tryz.isAgg4
  z4 := Tryz.sizeOf4
  v4 := Tryz.zeroValue4
  t5 := Tryz.underlying5
  a5 := Tryz.isAgg5
  z5 := Tryz.sizeOf5
  v5 := Tryz.zeroValue5
  t21 := Tryz.underlying21
  a21 := Tryz.isAgg21
  z21 := Tryz.sizeOf21
  v21 := Tryz.zeroValue21
  t37 := Tryz.underlying28
  a37 := Tryz.isAgg28
  z37 := Tryz.sizeOf28
  v37 := Tryz.zeroValue28
  t46 := Tryz.underlying68
  a46 := Tryz.isAgg68
  z46 := Tryz.sizeOf68
  v46 := Tryz.zeroValue68
  t51 := Tryz.underlying57
  a51 := Tryz.isAgg57
  z51 := Tryz.sizeOf57
  v51 := Tryz.zeroValue57 }
open Go.RowKit in
/-- unicode/utf8.appendRuneNonASCII (what AppendRune calls for all but ASCII), ONTO A ROW OF BYTES THAT THE CALL OWNS: every int32 that is no ASCII rune: 'Lib.runeCells r' goes in behind what the row holds. (LAID: no walk: one application.) -/
theorem Tryz.utf8_appendRuneNonASCII_row (B : Nat) (v : Value) (n : Nat) (xs : List Value) (r : Int) (hr0 : -2147483648 ≤ r) (hr1 : r ≤ 2147483647) (hna : r < 0 ∨ 128 ≤ r) (w : World) (hown : w.ownsRowF B 5 1 v n xs) (hlen : n + 4 ≤ 140737488355328) (hBw : B ≤ w.heap.size) :
    Calls Tryz.prog 33 #[v, .int .i32 r] w fun e w' => ∃ v', e = .returned v' ∧ w'.ownsRowF B 5 1 v' (n + (Lib.runeCells r).length) (xs ++ Lib.runeCells r) ∧ ∃ o, (w.alloc o).grownBy w' v.ownBlock := Any.utf8_appendRuneNonASCII_row Tryz.lays278 (by kernel_rfl) B v n xs r hr0 hr1 hna w hown hlen hBw
def Tryz.lays242_ren : Go.Shelf.Ren := ⟨fun | 242 => 20 | 278 => 33 | n => n, fun | 37 => 28 | 21 => 21 | 51 => 57 | 4 => 4 | 5 => 5 | 46 => 68 | n => n, fun | n => n⟩
theorem Tryz.lays242 : Go.Proofs.Lays.n242 Tryz.prog Tryz.lays242_ren := {
  mixed := by kernel_rfl
  f242 := Tryz.func20.trans (congrArg some (by kernel_rfl))
  f278 := Tryz.func33.trans (congrArg some (by kernel_rfl))
  t4 := Tryz.underlying4
  a4 := Tryz.isAgg4
  z4 := Tryz.sizeOf4
  v4 := Tryz.zeroValue4
  t5 := Tryz.underlying5
  a5 := Tryz.isAgg5
  z5 := Tryz.sizeOf5
  v5 := Tryz.zeroValue5
  t21 := Tryz.underlying21
  a21 := Tryz.isAgg21
  z21 := Tryz.sizeOf21
  v21 := Tryz.zeroValue21
  t37 := Tryz.underlying28
  a37 := Tryz.isAgg28
  z37 := Tryz.sizeOf28
  v37 := Tryz.zeroValue28
  t46 := Tryz.underlying68
  a46 := Tryz.isAgg68
  z46 := Tryz.sizeOf68
  v46 := Tryz.zeroValue68
  t51 := Tryz.underlying57
  a51 := Tryz.isAgg57
  z51 := Tryz.sizeOf57
  v51 := Tryz.zeroValue57 }
open Go.RowKit in
/-- unicode/utf8.AppendRune: "AppendRune appends the UTF-8 encoding of r to the end of p and returns the extended buffer. If the rune is out of range, it appends the encoding of RuneError.": ONTO A ROW OF BYTES THAT THE CALL OWNS (its head frozen or not): EVERY int32: 'Lib.runeCells r' goes in behind what the row holds; the world: one new block (the bytes as the call's variadic argument), then what 'append' does to the row. (LAID: no walk: one application.) -/
theorem Tryz.utf8_AppendRune_row (B : Nat) (v : Value) (n : Nat) (xs : List Value) (r : Int) (hr0 : -2147483648 ≤ r) (hr1 : r ≤ 2147483647) (w : World) (hown : w.ownsRowF B 5 1 v n xs) (hlen : n + 4 ≤ 140737488355328) (hBw : B ≤ w.heap.size) :
    Calls Tryz.prog 20 #[v, .int .i32 r] w fun e w' => ∃ v', e = .returned v' ∧ w'.ownsRowF B 5 1 v' (n + (Lib.runeCells r).length) (xs ++ Lib.runeCells r) ∧ ∃ o, (w.alloc o).grownBy w' v.ownBlock := Any.utf8_AppendRune_row Tryz.lays242 (by kernel_rfl) B v n xs r hr0 hr1 w hown hlen hBw
open Go.RowKit in
/-- unicode/utf8.appendRuneNonASCII (what AppendRune calls for all but ASCII), ONTO A ROW OF BYTES THAT THE CALL OWNS: every int32 that is no ASCII rune: 'Lib.runeCells r' goes in behind what the row holds. (LAID: no walk: one application.) -/
theorem Tryz.utf8_appendRuneNonASCII_plain (B : Nat) (v : Value) (n : Nat) (xs : List Value) (r : Int) (hr0 : -2147483648 ≤ r) (hr1 : r ≤ 2147483647) (hna : r < 0 ∨ 128 ≤ r) (w : World) (hown : w.ownsRow B 5 1 v n xs) (hlen : n + 4 ≤ 140737488355328) (hBw : B ≤ w.heap.size) :
    Calls Tryz.prog 33 #[v, .int .i32 r] w fun e w' => ∃ v', e = .returned v' ∧ w'.ownsRow B 5 1 v' (n + (Lib.runeCells r).length) (xs ++ Lib.runeCells r) ∧ ∃ o, (w.alloc o).grownBy w' v.ownBlock := Any.utf8_appendRuneNonASCII_plain Tryz.lays278 (by kernel_rfl) B v n xs r hr0 hr1 hna w hown hlen hBw
open Go.RowKit in
/-- unicode/utf8.AppendRune: "AppendRune appends the UTF-8 encoding of r to the end of p and returns the extended buffer. If the rune is out of range, it appends the encoding of RuneError.": ONTO A ROW OF BYTES THAT THE CALL OWNS (its head frozen or not): EVERY int32: 'Lib.runeCells r' goes in behind what the row holds; the world: one new block (the bytes as the call's variadic argument), then what 'append' does to the row. (LAID: no walk: one application.) -/
theorem Tryz.utf8_AppendRune_plain (B : Nat) (v : Value) (n : Nat) (xs : List Value) (r : Int) (hr0 : -2147483648 ≤ r) (hr1 : r ≤ 2147483647) (w : World) (hown : w.ownsRow B 5 1 v n xs) (hlen : n + 4 ≤ 140737488355328) (hBw : B ≤ w.heap.size) :
    Calls Tryz.prog 20 #[v, .int .i32 r] w fun e w' => ∃ v', e = .returned v' ∧ w'.ownsRow B 5 1 v' (n + (Lib.runeCells r).length) (xs ++ Lib.runeCells r) ∧ ∃ o, (w.alloc o).grownBy w' v.ownBlock := Any.utf8_AppendRune_plain Tryz.lays242 (by kernel_rfl) B v n xs r hr0 hr1 w hown hlen hBw
open Go.RowKit in
/-- (*strings.Builder).grow (no doc but "grow copies the buffer to a new, larger buffer so that there are at least n bytes of capacity beyond len(b.buf)."): AT A BUILDER WITHOUT A BUFFER: a new row of whatever bytes for its buffer, none of them its own yet. Three draws. (LAID: no walk: one application.) -/
theorem Tryz.Builder_grow_fresh_cap (B b n : Nat) (w : World) (hB : B ≤ b) (hbk : w.heap[b]? = some (.cells #[.pointer (some ⟨b, 0, none⟩), .slice none 0 0] 30 (0, 0))) (hBw : B ≤ w.heap.size) (hn : n ≤ 281474976710656) :
    Calls Tryz.prog 93 #[.pointer (some ⟨b, 0, none⟩), .int .i64 n] w fun e w' => e = .returned (.tuple #[]) ∧ (Lib.BuilderAt 30 5 B b (.pointer (some ⟨b, 0, none⟩)) [] w' ∧ Below B w w') ∧ ∃ p cap, w'.cell? ⟨b, 1, none⟩ = some (.slice p 0 cap) ∧ n ≤ cap := Any.Builder_grow_fresh_cap Tryz.lays241 Tryz.Builder_Extra_241 B b n w hB hbk hBw hn
open Go.RowKit in
/-- (*strings.Builder).Grow AT A BUILDER THAT HAS NOT BEEN WRITTEN ('var b strings.Builder; b.Grow(n)'): "Grow grows b's capacity, if necessary, to guarantee space for another n bytes.": it holds no byte behind it as before it. (LAID: no walk: one application.) -/
theorem Tryz.Builder_Grow_fresh_cap (B b n : Nat) (w : World) (hB : B ≤ b) (hbk : w.heap[b]? = some (.cells #[.pointer none, .slice none 0 0] 30 (0, 0))) (hBw : B ≤ w.heap.size) (hn : n ≤ 281474976710656) :
    Calls Tryz.prog 79 #[.pointer (some ⟨b, 0, none⟩), .int .i64 n] w fun e w' => e = .returned (.tuple #[]) ∧ (Lib.BuilderAt 30 5 B b (.pointer (some ⟨b, 0, none⟩)) [] w' ∧ Below B w w') ∧ ∃ p cap, w'.cell? ⟨b, 1, none⟩ = some (.slice p 0 cap) ∧ n ≤ cap := Any.Builder_Grow_fresh_cap Tryz.lays165 Tryz.Builder_Extra_165 B b n w hB hbk hBw hn
def Tryz.lays129_ren : Go.Shelf.Ren := ⟨fun | 129 => 74 | n => n, fun | 53 => 100 | 3 => 3 | 4 => 4 | 46 => 68 | 5 => 5 | 9 => 9 | n => n, fun | n => n⟩
theorem Tryz.lays129 : Go.Proofs.Lays.n129 Tryz.prog Tryz.lays129_ren := {
  mixed := by kernel_rfl
  f129 := Tryz.func74.trans (congrArg some (by kernel_rfl))
  t3 := Tryz.underlying3
  a3 := Tryz.isAgg3
  z3 := Tryz.sizeOf3
  v3 := Tryz.zeroValue3
  t4 := Tryz.underlying4
  a4 := Tryz.isAgg4
  z4 := Tryz.sizeOf4
  v4 := Tryz.zeroValue4
  t5 := Tryz.underlying5
  a5 := Tryz.isAgg5
  z5 := Tryz.sizeOf5
  v5 := Tryz.zeroValue5
  t9 := Tryz.underlying9
  a9 := Tryz.isAgg9
  z9 := Tryz.sizeOf9
  v9 := Tryz.zeroValue9
  t46 := Tryz.underlying68
  a46 := Tryz.isAgg68
  z46 := Tryz.sizeOf68
  v46 := Tryz.zeroValue68
  t53 := Tryz.underlying100
  a53 := Tryz.isAgg100
  z53 := Tryz.sizeOf100
  v53 := Tryz.zeroValue100 }
/-- bits.Len64: "Len64 returns the minimum number of bits required to represent x; the result is 0 for x == 0.": IT RETURNS 'Lib.bitLen x'; the world is as it was. ('h0', 'h1': x is a uint64.) (LAID: no walk: one application.) -/
theorem Tryz.bits_Len64 (x : Int) (w : World) (h0 : 0 ≤ x) (h1 : x ≤ 18446744073709551615) :
    Calls Tryz.prog 74 #[.int .u64 x] w fun e w' => e = .returned (.int .i64 (Lib.bitLen x.toNat)) ∧ w' = w := Any.bits_Len64 Tryz.lays129 x w h0 h1
def Tryz.lays189_ren : Go.Shelf.Ren := ⟨fun | 189 => 40 | 125 => 52 | 257 => 51 | 128 => 73 | 129 => 74 | 294 => 64 | 295 => 65 | 296 => 66 | 297 => 67 | 298 => 68 | 299 => 69 | 216 => 70 | 300 => 71 | 301 => 72 | 328 => 85 | 329 => 86 | 330 => 87 | 331 => 88 | 332 => 89 | 215 => 90 | 343 => 101 | n => n, fun | 28 => 38 | 3 => 3 | 46 => 68 | 0 => 0 | 51 => 57 | 53 => 100 | 4 => 4 | 183 => 91 | 182 => 90 | 131 => 96 | 5 => 5 | 9 => 9 | 218 => 115 | 222 => 119 | 228 => 137 | 229 => 138 | n => n, fun | n => n⟩
theorem Tryz.lays189 : Go.Proofs.Lays.n189 Tryz.prog Tryz.lays189_ren := {
  mixed := by kernel_rfl
  f125 := Tryz.func52.trans (congrArg some (by kernel_rfl))
  f128 := Tryz.func73.trans (congrArg some (by kernel_rfl))
  f129 := Tryz.func74.trans (congrArg some (by kernel_rfl))
  f189 := Tryz.func40.trans (congrArg some (by kernel_rfl))
  f215 := Tryz.func90.trans (congrArg some (by kernel_rfl))
  f216 := Tryz.func70.trans (congrArg some (by kernel_rfl))
  f257 := Tryz.func51.trans (congrArg some (by kernel_rfl))
  f294 := Tryz.func64.trans (congrArg some (by kernel_rfl))
  f295 := Tryz.func65.trans (congrArg some (by kernel_rfl))
  f296 := Tryz.func66.trans (congrArg some (by kernel_rfl))
  f297 := Tryz.func67.trans (congrArg some (by kernel_rfl))
  f298 := Tryz.func68.trans (congrArg some (by kernel_rfl))
  f299 := Tryz.func69.trans (congrArg some (by kernel_rfl))
  f300 := Tryz.func71.trans (congrArg some (by kernel_rfl))
  f301 := Tryz.func72.trans (congrArg some (by kernel_rfl))
  f328 := Tryz.func85.trans (congrArg some (by kernel_rfl))
  f329 := Tryz.func86.trans (congrArg some (by kernel_rfl))
  f330 := Tryz.func87.trans (congrArg some (by kernel_rfl))
  f331 := Tryz.func88.trans (congrArg some (by kernel_rfl))
  f332 := Tryz.func89.trans (congrArg some (by kernel_rfl))
  f343 := Tryz.func101.trans (congrArg some (by kernel_rfl))
  t0 := Tryz.underlying0
  a0 := Tryz.isAgg0
  z0 := Tryz.sizeOf0
  v0 := Tryz.zeroValue0
  t3 := Tryz.underlying3
  a3 := Tryz.isAgg3
  z3 := Tryz.sizeOf3
  v3 := Tryz.zeroValue3
  t4 := Tryz.underlying4
  a4 := Tryz.isAgg4
  z4 := Tryz.sizeOf4
  v4 := Tryz.zeroValue4
  t5 := Tryz.underlying5
  a5 := Tryz.isAgg5
  z5 := Tryz.sizeOf5
  v5 := Tryz.zeroValue5
  t9 := Tryz.underlying9
  a9 := Tryz.isAgg9
  z9 := Tryz.sizeOf9
  v9 := Tryz.zeroValue9
  t28 := Tryz.underlying38
  a28 := Tryz.isAgg38
  z28 := Tryz.sizeOf38
  v28 := Tryz.zeroValue38
  t46 := Tryz.underlying68
  a46 := Tryz.isAgg68
  z46 := Tryz.sizeOf68
  v46 := Tryz.zeroValue68
  t51 := Tryz.underlying57
  a51 := Tryz.isAgg57
  z51 := Tryz.sizeOf57
  v51 := Tryz.zeroValue57
  t53 := Tryz.underlying100
  a53 := Tryz.isAgg100
  z53 := Tryz.sizeOf100
  v53 := Tryz.zeroValue100
  t131 := Tryz.underlying96
  a131 := Tryz.isAgg96
  z131 := Tryz.sizeOf96
  v131 := Tryz.zeroValue96
  t182 := Tryz.underlying90
  a182 := Tryz.isAgg90
  z182 := Tryz.sizeOf90
  v182 := Tryz.zeroValue90
  t183 := Tryz.underlying91
  a183 := Tryz.isAgg91
  z183 := Tryz.sizeOf91
  v183 := Tryz.zeroValue91
  t218 := Tryz.underlying115
  a218 := Tryz.isAgg115
  z218 := Tryz.sizeOf115
  v218 := Tryz.zeroValue115
  t222 := Tryz.underlying119
  a222 := Tryz.isAgg119
  z222 := Tryz.sizeOf119
  v222 := Tryz.zeroValue119
  t228 := Tryz.underlying137
  a228 := Tryz.isAgg137
  z228 := Tryz.sizeOf137
  v228 := Tryz.zeroValue137
  t229 := Tryz.underlying138
  a229 := Tryz.isAgg138
  z229 := Tryz.sizeOf138
  v229 := Tryz.zeroValue138 }
open Go.Sort Go.RowKit in
theorem Tryz.slices_Sort_int (blk off cap : Nat) (zs : List Int) (w : World) (hH : Holds (Value.int .i64) w blk off zs.toArray) (hblk : blk < w.heap.size) (hsz : zs.length < 4611686018427387904) :
    Calls Tryz.prog 40 #[.slice (some ⟨blk, off, none⟩) zs.length cap] w fun e w' =>
      e = .returned (.tuple #[]) ∧ ∃ n os, w' = grow (putRow (Value.int .i64) (Sort.ahead w n) blk off (zs.mergeSort fun x y => decide (x ≤ y)).toArray) os := Any.slices_Sort_int Tryz.lays189 blk off cap zs w hH hblk hsz
def Tryz.lays191_ren : Go.Shelf.Ren := ⟨fun | 191 => 25 | 189 => 40 | 125 => 52 | 257 => 51 | 128 => 73 | 129 => 74 | 294 => 64 | 295 => 65 | 296 => 66 | 297 => 67 | 298 => 68 | 299 => 69 | 216 => 70 | 300 => 71 | 301 => 72 | 328 => 85 | 329 => 86 | 330 => 87 | 331 => 88 | 332 => 89 | 215 => 90 | 343 => 101 | n => n, fun | 28 => 38 | 0 => 0 | 3 => 3 | 46 => 68 | 51 => 57 | 53 => 100 | 4 => 4 | 183 => 91 | 182 => 90 | 131 => 96 | 5 => 5 | 9 => 9 | 218 => 115 | 222 => 119 | 228 => 137 | 229 => 138 | n => n, fun | n => n⟩
theorem Tryz.lays191 : Go.Proofs.Lays.n191 Tryz.prog Tryz.lays191_ren := {
  mixed := by kernel_rfl
  f125 := Tryz.func52.trans (congrArg some (by kernel_rfl))
  f128 := Tryz.func73.trans (congrArg some (by kernel_rfl))
  f129 := Tryz.func74.trans (congrArg some (by kernel_rfl))
  f189 := Tryz.func40.trans (congrArg some (by kernel_rfl))
  f191 := Tryz.func25.trans (congrArg some (by kernel_rfl))
  f215 := Tryz.func90.trans (congrArg some (by kernel_rfl))
  f216 := Tryz.func70.trans (congrArg some (by kernel_rfl))
  f257 := Tryz.func51.trans (congrArg some (by kernel_rfl))
  f294 := Tryz.func64.trans (congrArg some (by kernel_rfl))
  f295 := Tryz.func65.trans (congrArg some (by kernel_rfl))
  f296 := Tryz.func66.trans (congrArg some (by kernel_rfl))
  f297 := Tryz.func67.trans (congrArg some (by kernel_rfl))
  f298 := Tryz.func68.trans (congrArg some (by kernel_rfl))
  f299 := Tryz.func69.trans (congrArg some (by kernel_rfl))
  f300 := Tryz.func71.trans (congrArg some (by kernel_rfl))
  f301 := Tryz.func72.trans (congrArg some (by kernel_rfl))
  f328 := Tryz.func85.trans (congrArg some (by kernel_rfl))
  f329 := Tryz.func86.trans (congrArg some (by kernel_rfl))
  f330 := Tryz.func87.trans (congrArg some (by kernel_rfl))
  f331 := Tryz.func88.trans (congrArg some (by kernel_rfl))
  f332 := Tryz.func89.trans (congrArg some (by kernel_rfl))
  f343 := Tryz.func101.trans (congrArg some (by kernel_rfl))
  t0 := Tryz.underlying0
  a0 := Tryz.isAgg0
  z0 := Tryz.sizeOf0
  v0 := Tryz.zeroValue0
  t3 := Tryz.underlying3
  a3 := Tryz.isAgg3
  z3 := Tryz.sizeOf3
  v3 := Tryz.zeroValue3
  t4 := Tryz.underlying4
  a4 := Tryz.isAgg4
  z4 := Tryz.sizeOf4
  v4 := Tryz.zeroValue4
  t5 := Tryz.underlying5
  a5 := Tryz.isAgg5
  z5 := Tryz.sizeOf5
  v5 := Tryz.zeroValue5
  t9 := Tryz.underlying9
  a9 := Tryz.isAgg9
  z9 := Tryz.sizeOf9
  v9 := Tryz.zeroValue9
  t28 := Tryz.underlying38
  a28 := Tryz.isAgg38
  z28 := Tryz.sizeOf38
  v28 := Tryz.zeroValue38
  t46 := Tryz.underlying68
  a46 := Tryz.isAgg68
  z46 := Tryz.sizeOf68
  v46 := Tryz.zeroValue68
  t51 := Tryz.underlying57
  a51 := Tryz.isAgg57
  z51 := Tryz.sizeOf57
  v51 := Tryz.zeroValue57
  t53 := Tryz.underlying100
  a53 := Tryz.isAgg100
  z53 := Tryz.sizeOf100
  v53 := Tryz.zeroValue100
  t131 := Tryz.underlying96
  a131 := Tryz.isAgg96
  z131 := Tryz.sizeOf96
  v131 := Tryz.zeroValue96
  t182 := Tryz.underlying90
  a182 := Tryz.isAgg90
  z182 := Tryz.sizeOf90
  v182 := Tryz.zeroValue90
  t183 := Tryz.underlying91
  a183 := Tryz.isAgg91
  z183 := Tryz.sizeOf91
  v183 := Tryz.zeroValue91
  t218 := Tryz.underlying115
  a218 := Tryz.isAgg115
  z218 := Tryz.sizeOf115
  v218 := Tryz.zeroValue115
  t222 := Tryz.underlying119
  a222 := Tryz.isAgg119
  z222 := Tryz.sizeOf119
  v222 := Tryz.zeroValue119
  t228 := Tryz.underlying137
  a228 := Tryz.isAgg137
  z228 := Tryz.sizeOf137
  v228 := Tryz.zeroValue137
  t229 := Tryz.underlying138
  a229 := Tryz.isAgg138
  z229 := Tryz.sizeOf138
  v229 := Tryz.zeroValue138 }
open Go.Sort Go.RowKit in
theorem Tryz.sort_Ints (blk off cap : Nat) (zs : List Int) (w : World) (hH : Holds (Value.int .i64) w blk off zs.toArray) (hblk : blk < w.heap.size) (hsz : zs.length < 4611686018427387904) :
    Calls Tryz.prog 25 #[.slice (some ⟨blk, off, none⟩) zs.length cap] w fun e w' =>
      e = .returned (.tuple #[]) ∧ ∃ n os, w' = grow (putRow (Value.int .i64) (Sort.ahead w n) blk off (zs.mergeSort fun x y => decide (x ≤ y)).toArray) os := Any.sort_Ints Tryz.lays191 blk off cap zs w hH hblk hsz
def Tryz.lays190_ren : Go.Shelf.Ren := ⟨fun | 190 => 78 | 125 => 52 | 258 => 92 | 128 => 73 | 129 => 74 | 302 => 103 | 303 => 104 | 304 => 105 | 305 => 106 | 306 => 107 | 307 => 108 | 308 => 109 | 309 => 110 | 310 => 111 | 333 => 114 | 329 => 86 | 330 => 87 | 334 => 115 | 335 => 116 | 336 => 117 | 344 => 118 | n => n, fun | 31 => 59 | 9 => 9 | 3 => 3 | 46 => 68 | 0 => 0 | 51 => 57 | 53 => 100 | 4 => 4 | 183 => 91 | 182 => 90 | 131 => 96 | 5 => 5 | 218 => 115 | 222 => 119 | 228 => 137 | 229 => 138 | n => n, fun | n => n⟩
theorem Tryz.lays190 : Go.Proofs.Lays.n190 Tryz.prog Tryz.lays190_ren := {
  mixed := by kernel_rfl
  f125 := Tryz.func52.trans (congrArg some (by kernel_rfl))
  f128 := Tryz.func73.trans (congrArg some (by kernel_rfl))
  f129 := Tryz.func74.trans (congrArg some (by kernel_rfl))
  f190 := Tryz.func78.trans (congrArg some (by kernel_rfl))
  f258 := Tryz.func92.trans (congrArg some (by kernel_rfl))
  f302 := Tryz.func103.trans (congrArg some (by kernel_rfl))
  f303 := Tryz.func104.trans (congrArg some (by kernel_rfl))
  f304 := Tryz.func105.trans (congrArg some (by kernel_rfl))
  f305 := Tryz.func106.trans (congrArg some (by kernel_rfl))
  f306 := Tryz.func107.trans (congrArg some (by kernel_rfl))
  f307 := Tryz.func108.trans (congrArg some (by kernel_rfl))
  f308 := Tryz.func109.trans (congrArg some (by kernel_rfl))
  f309 := Tryz.func110.trans (congrArg some (by kernel_rfl))
  f310 := Tryz.func111.trans (congrArg some (by kernel_rfl))
  f329 := Tryz.func86.trans (congrArg some (by kernel_rfl))
  f330 := Tryz.func87.trans (congrArg some (by kernel_rfl))
  f333 := Tryz.func114.trans (congrArg some (by kernel_rfl))
  f334 := Tryz.func115.trans (congrArg some (by kernel_rfl))
  f335 := Tryz.func116.trans (congrArg some (by kernel_rfl))
  f336 := Tryz.func117.trans (congrArg some (by kernel_rfl))
  f344 := Tryz.func118.trans (congrArg some (by kernel_rfl))
  t0 := Tryz.underlying0
  a0 := Tryz.isAgg0
  z0 := Tryz.sizeOf0
  v0 := Tryz.zeroValue0
  t3 := Tryz.underlying3
  a3 := Tryz.isAgg3
  z3 := Tryz.sizeOf3
  v3 := Tryz.zeroValue3
  t4 := Tryz.underlying4
  a4 := Tryz.isAgg4
  z4 := Tryz.sizeOf4
  v4 := Tryz.zeroValue4
  t5 := Tryz.underlying5
  a5 := Tryz.isAgg5
  z5 := Tryz.sizeOf5
  v5 := Tryz.zeroValue5
  t9 := Tryz.underlying9
  a9 := Tryz.isAgg9
  z9 := Tryz.sizeOf9
  v9 := Tryz.zeroValue9
  t31 := Tryz.underlying59
  a31 := Tryz.isAgg59
  z31 := Tryz.sizeOf59
  v31 := Tryz.zeroValue59
  t46 := Tryz.underlying68
  a46 := Tryz.isAgg68
  z46 := Tryz.sizeOf68
  v46 := Tryz.zeroValue68
  t51 := Tryz.underlying57
  a51 := Tryz.isAgg57
  z51 := Tryz.sizeOf57
  v51 := Tryz.zeroValue57
  t53 := Tryz.underlying100
  a53 := Tryz.isAgg100
  z53 := Tryz.sizeOf100
  v53 := Tryz.zeroValue100
  t131 := Tryz.underlying96
  a131 := Tryz.isAgg96
  z131 := Tryz.sizeOf96
  v131 := Tryz.zeroValue96
  t182 := Tryz.underlying90
  a182 := Tryz.isAgg90
  z182 := Tryz.sizeOf90
  v182 := Tryz.zeroValue90
  t183 := Tryz.underlying91
  a183 := Tryz.isAgg91
  z183 := Tryz.sizeOf91
  v183 := Tryz.zeroValue91
  t218 := Tryz.underlying115
  a218 := Tryz.isAgg115
  z218 := Tryz.sizeOf115
  v218 := Tryz.zeroValue115
  t222 := Tryz.underlying119
  a222 := Tryz.isAgg119
  z222 := Tryz.sizeOf119
  v222 := Tryz.zeroValue119
  t228 := Tryz.underlying137
  a228 := Tryz.isAgg137
  z228 := Tryz.sizeOf137
  v228 := Tryz.zeroValue137
  t229 := Tryz.underlying138
  a229 := Tryz.isAgg138
  z229 := Tryz.sizeOf138
  v229 := Tryz.zeroValue138 }
open Go.Sort Go.RowKit in
theorem Tryz.slices_Sort_string (blk off cap : Nat) (ss : List (List UInt8)) (w : World) (hH : Holds encStr w blk off ss.toArray) (hblk : blk < w.heap.size) (hsz : ss.length < 4611686018427387904) :
    Calls Tryz.prog 78 #[.slice (some ⟨blk, off, none⟩) ss.length cap] w fun e w' =>
      e = .returned (.tuple #[]) ∧ ∃ n os, w' = grow (putRow encStr (Sort.ahead w n) blk off (ss.mergeSort fun x y => decide (x ≤ y)).toArray) os := Any.slices_Sort_string Tryz.lays190 blk off cap ss w hH hblk hsz
def Tryz.lays192_ren : Go.Shelf.Ren := ⟨fun | 192 => 54 | 190 => 78 | 125 => 52 | 258 => 92 | 128 => 73 | 129 => 74 | 302 => 103 | 303 => 104 | 304 => 105 | 305 => 106 | 306 => 107 | 307 => 108 | 308 => 109 | 309 => 110 | 310 => 111 | 333 => 114 | 329 => 86 | 330 => 87 | 334 => 115 | 335 => 116 | 336 => 117 | 344 => 118 | n => n, fun | 31 => 59 | 0 => 0 | 9 => 9 | 3 => 3 | 46 => 68 | 51 => 57 | 53 => 100 | 4 => 4 | 183 => 91 | 182 => 90 | 131 => 96 | 5 => 5 | 218 => 115 | 222 => 119 | 228 => 137 | 229 => 138 | n => n, fun | n => n⟩
theorem Tryz.lays192 : Go.Proofs.Lays.n192 Tryz.prog Tryz.lays192_ren := {
  mixed := by kernel_rfl
  f125 := Tryz.func52.trans (congrArg some (by kernel_rfl))
  f128 := Tryz.func73.trans (congrArg some (by kernel_rfl))
  f129 := Tryz.func74.trans (congrArg some (by kernel_rfl))
  f190 := Tryz.func78.trans (congrArg some (by kernel_rfl))
  f192 := Tryz.func54.trans (congrArg some (by kernel_rfl))
  f258 := Tryz.func92.trans (congrArg some (by kernel_rfl))
  f302 := Tryz.func103.trans (congrArg some (by kernel_rfl))
  f303 := Tryz.func104.trans (congrArg some (by kernel_rfl))
  f304 := Tryz.func105.trans (congrArg some (by kernel_rfl))
  f305 := Tryz.func106.trans (congrArg some (by kernel_rfl))
  f306 := Tryz.func107.trans (congrArg some (by kernel_rfl))
  f307 := Tryz.func108.trans (congrArg some (by kernel_rfl))
  f308 := Tryz.func109.trans (congrArg some (by kernel_rfl))
  f309 := Tryz.func110.trans (congrArg some (by kernel_rfl))
  f310 := Tryz.func111.trans (congrArg some (by kernel_rfl))
  f329 := Tryz.func86.trans (congrArg some (by kernel_rfl))
  f330 := Tryz.func87.trans (congrArg some (by kernel_rfl))
  f333 := Tryz.func114.trans (congrArg some (by kernel_rfl))
  f334 := Tryz.func115.trans (congrArg some (by kernel_rfl))
  f335 := Tryz.func116.trans (congrArg some (by kernel_rfl))
  f336 := Tryz.func117.trans (congrArg some (by kernel_rfl))
  f344 := Tryz.func118.trans (congrArg some (by kernel_rfl))
  t0 := Tryz.underlying0
  a0 := Tryz.isAgg0
  z0 := Tryz.sizeOf0
  v0 := Tryz.zeroValue0
  t3 := Tryz.underlying3
  a3 := Tryz.isAgg3
  z3 := Tryz.sizeOf3
  v3 := Tryz.zeroValue3
  t4 := Tryz.underlying4
  a4 := Tryz.isAgg4
  z4 := Tryz.sizeOf4
  v4 := Tryz.zeroValue4
  t5 := Tryz.underlying5
  a5 := Tryz.isAgg5
  z5 := Tryz.sizeOf5
  v5 := Tryz.zeroValue5
  t9 := Tryz.underlying9
  a9 := Tryz.isAgg9
  z9 := Tryz.sizeOf9
  v9 := Tryz.zeroValue9
  t31 := Tryz.underlying59
  a31 := Tryz.isAgg59
  z31 := Tryz.sizeOf59
  v31 := Tryz.zeroValue59
  t46 := Tryz.underlying68
  a46 := Tryz.isAgg68
  z46 := Tryz.sizeOf68
  v46 := Tryz.zeroValue68
  t51 := Tryz.underlying57
  a51 := Tryz.isAgg57
  z51 := Tryz.sizeOf57
  v51 := Tryz.zeroValue57
  t53 := Tryz.underlying100
  a53 := Tryz.isAgg100
  z53 := Tryz.sizeOf100
  v53 := Tryz.zeroValue100
  t131 := Tryz.underlying96
  a131 := Tryz.isAgg96
  z131 := Tryz.sizeOf96
  v131 := Tryz.zeroValue96
  t182 := Tryz.underlying90
  a182 := Tryz.isAgg90
  z182 := Tryz.sizeOf90
  v182 := Tryz.zeroValue90
  t183 := Tryz.underlying91
  a183 := Tryz.isAgg91
  z183 := Tryz.sizeOf91
  v183 := Tryz.zeroValue91
  t218 := Tryz.underlying115
  a218 := Tryz.isAgg115
  z218 := Tryz.sizeOf115
  v218 := Tryz.zeroValue115
  t222 := Tryz.underlying119
  a222 := Tryz.isAgg119
  z222 := Tryz.sizeOf119
  v222 := Tryz.zeroValue119
  t228 := Tryz.underlying137
  a228 := Tryz.isAgg137
  z228 := Tryz.sizeOf137
  v228 := Tryz.zeroValue137
  t229 := Tryz.underlying138
  a229 := Tryz.isAgg138
  z229 := Tryz.sizeOf138
  v229 := Tryz.zeroValue138 }
open Go.Sort Go.RowKit in
theorem Tryz.sort_Strings (blk off cap : Nat) (ss : List (List UInt8)) (w : World) (hH : Holds encStr w blk off ss.toArray) (hblk : blk < w.heap.size) (hsz : ss.length < 4611686018427387904) :
    Calls Tryz.prog 54 #[.slice (some ⟨blk, off, none⟩) ss.length cap] w fun e w' =>
      e = .returned (.tuple #[]) ∧ ∃ n os, w' = grow (putRow encStr (Sort.ahead w n) blk off (ss.mergeSort fun x y => decide (x ≤ y)).toArray) os := Any.sort_Strings Tryz.lays192 blk off cap ss w hH hblk hsz
def Tryz.lays315_ren : Go.Shelf.Ren := ⟨fun | 315 => 94 | n => n, fun | 9 => 9 | 40 => 50 | 4 => 4 | 3 => 3 | 0 => 0 | 21 => 21 | n => n, fun | n => n⟩
theorem Tryz.lays315 : Go.Proofs.Lays.n315 Tryz.prog Tryz.lays315_ren := {
  mixed := by kernel_rfl
  f315 := Tryz.func94.trans (congrArg some (by kernel_rfl))
  t0 := Tryz.underlying0
  a0 := Tryz.isAgg0
  z0 := Tryz.sizeOf0
  v0 := Tryz.zeroValue0
  t3 := Tryz.underlying3
  a3 := Tryz.isAgg3
  z3 := Tryz.sizeOf3
  v3 := Tryz.zeroValue3
  t4 := Tryz.underlying4
  a4 := Tryz.isAgg4
  z4 := Tryz.sizeOf4
  v4 := Tryz.zeroValue4
  t9 := Tryz.underlying9
  a9 := Tryz.isAgg9
  z9 := Tryz.sizeOf9
  v9 := Tryz.zeroValue9
  t21 := Tryz.underlying21
  a21 := Tryz.isAgg21
  z21 := Tryz.sizeOf21
  v21 := Tryz.zeroValue21
  t40 := Tryz.underlying50
  a40 := Tryz.isAgg50
  z40 := Tryz.sizeOf50
  v40 := Tryz.zeroValue50 }
open Go.RowKit Go.Lib in
theorem Tryz.strings_indexFunc (g : Nat) (lb : Array Value) (eg : ∀ args w, (callFunc g args).run Tryz.prog w = .ok (.enter g args) w) (p : Nat → Bool) (truth : Bool) (s : ByteArray) (w : World) (hp : PredAt Tryz.prog g lb encR p w) :
    Calls Tryz.prog 94 #[.string s, .func (.func g) #[] lb, .bool truth] w fun e w' => e = .returned (.int .i64 (Lib.idxFunc p truth s)) ∧ Below w.heap.size w w' := Any.strings_indexFunc Tryz.lays315 g lb eg p truth s w hp
def Tryz.lays199_ren : Go.Shelf.Ren := ⟨fun | 199 => 58 | 261 => 81 | 311 => 95 | 312 => 96 | n => n, fun | 21 => 21 | 4 => 4 | 51 => 57 | 141 => 108 | 0 => 0 | 196 => 128 | 193 => 125 | 3 => 3 | 198 => 131 | 49 => 129 | 194 => 126 | 201 => 134 | 226 => 148 | 46 => 68 | 227 => 149 | n => n, fun | 6 => 1 | n => n⟩
theorem Tryz.lays199 : Go.Proofs.Lays.n199 Tryz.prog Tryz.lays199_ren := {
  mixed := by kernel_rfl
  f199 := Tryz.func58.trans (congrArg some (by kernel_rfl))
  f261 := Tryz.func81.trans (congrArg some (by kernel_rfl))
  f311 := Tryz.func95.trans (congrArg some (by kernel_rfl))
  f312 := Tryz.func96.trans (congrArg some (by kernel_rfl))
  t0 := Tryz.underlying0
  a0 := Tryz.isAgg0
  z0 := Tryz.sizeOf0
  v0 := Tryz.zeroValue0
  t3 := Tryz.underlying3
  a3 := Tryz.isAgg3
  z3 := Tryz.sizeOf3
  v3 := Tryz.zeroValue3
  t4 := Tryz.underlying4
  a4 := Tryz.isAgg4
  z4 := Tryz.sizeOf4
  v4 := Tryz.zeroValue4
  t21 := Tryz.underlying21
  a21 := Tryz.isAgg21
  z21 := Tryz.sizeOf21
  v21 := Tryz.zeroValue21
  t46 := Tryz.underlying68
  a46 := Tryz.isAgg68
  z46 := Tryz.sizeOf68
  v46 := Tryz.zeroValue68
  t49 := Tryz.underlying129
  a49 := Tryz.isAgg129
  z49 := Tryz.sizeOf129
  v49 := Tryz.zeroValue129
  t51 := Tryz.underlying57
  a51 := Tryz.isAgg57
  z51 := Tryz.sizeOf57
  v51 := Tryz.zeroValue57
  t141 := Tryz.underlying108
  a141 := Tryz.isAgg108
  z141 := Tryz.sizeOf108
  v141 := Tryz.zeroValue108
  t193 := Tryz.underlying125
  a193 := Tryz.isAgg125
  z193 := Tryz.sizeOf125
  v193 := Tryz.zeroValue125
  t194 := Tryz.underlying126
  a194 := Tryz.isAgg126
  z194 := Tryz.sizeOf126
  v194 := Tryz.zeroValue126
  t196 := Tryz.underlying128
  a196 := Tryz.isAgg128
  z196 := Tryz.sizeOf128
  v196 := Tryz.zeroValue128
  t198 := Tryz.underlying131
  a198 := Tryz.isAgg131
  z198 := Tryz.sizeOf131
  v198 := Tryz.zeroValue131
  t201 := Tryz.underlying134
  a201 := Tryz.isAgg134
  z201 := Tryz.sizeOf134
  v201 := Tryz.zeroValue134
  t226 := Tryz.underlying148
  a226 := Tryz.isAgg148
  z226 := Tryz.sizeOf148
  v226 := Tryz.zeroValue148
  t227 := Tryz.underlying149
  a227 := Tryz.isAgg149
  z227 := Tryz.sizeOf149
  v227 := Tryz.zeroValue149
  g6 := by kernel_rfl }
open Go.RowKit Go.Lib in
theorem Tryz.unicode_IsSpace (r : Int) (w : World) (h0 : 0 ≤ r) (h : r ≤ 255) :
    Calls Tryz.prog 58 #[.int .i32 r] w fun e w' => e = .returned (.bool (Lib.isSpaceL r)) ∧ w' = w := Any.unicode_IsSpace Tryz.lays199 r w h0 h
def Tryz.lays197_ren : Go.Shelf.Ren := ⟨fun | 197 => 83 | 260 => 98 | n => n, fun | 9 => 9 | 21 => 21 | 3 => 3 | 4 => 4 | 5 => 5 | 105 => 110 | 119 => 82 | 0 => 0 | 46 => 68 | 139 => 153 | 138 => 152 | n => n, fun | 3 => 2 | 4 => 3 | n => n⟩
theorem Tryz.lays197 : Go.Proofs.Lays.n197 Tryz.prog Tryz.lays197_ren := {
  mixed := by kernel_rfl
  f197 := Tryz.func83.trans (congrArg some (by kernel_rfl))
  f260 := Tryz.func98.trans (congrArg some (by kernel_rfl))
  t0 := Tryz.underlying0
  a0 := Tryz.isAgg0
  z0 := Tryz.sizeOf0
  v0 := Tryz.zeroValue0
  t3 := Tryz.underlying3
  a3 := Tryz.isAgg3
  z3 := Tryz.sizeOf3
  v3 := Tryz.zeroValue3
  t4 := Tryz.underlying4
  a4 := Tryz.isAgg4
  z4 := Tryz.sizeOf4
  v4 := Tryz.zeroValue4
  t5 := Tryz.underlying5
  a5 := Tryz.isAgg5
  z5 := Tryz.sizeOf5
  v5 := Tryz.zeroValue5
  t9 := Tryz.underlying9
  a9 := Tryz.isAgg9
  z9 := Tryz.sizeOf9
  v9 := Tryz.zeroValue9
  t21 := Tryz.underlying21
  a21 := Tryz.isAgg21
  z21 := Tryz.sizeOf21
  v21 := Tryz.zeroValue21
  t46 := Tryz.underlying68
  a46 := Tryz.isAgg68
  z46 := Tryz.sizeOf68
  v46 := Tryz.zeroValue68
  t105 := Tryz.underlying110
  a105 := Tryz.isAgg110
  z105 := Tryz.sizeOf110
  v105 := Tryz.zeroValue110
  t119 := Tryz.underlying82
  a119 := Tryz.isAgg82
  z119 := Tryz.sizeOf82
  t138 := Tryz.underlying152
  a138 := Tryz.isAgg152
  z138 := Tryz.sizeOf152
  v138 := Tryz.zeroValue152
  t139 := Tryz.underlying153
  a139 := Tryz.isAgg153
  z139 := Tryz.sizeOf153
  v139 := Tryz.zeroValue153
  g3 := by kernel_rfl
  g4 := by kernel_rfl }
open Go.RowKit Go.Lib in
/-- unicode/utf8.DecodeRuneInString: "DecodeRuneInString is like DecodeRune but its input is a string.": ("DecodeRune unpacks the first UTF-8 encoding in p and returns the rune and its width in bytes."): WHERE s BEGINS WITH AN ASCII BYTE x: (x, 1). (LAID: no walk: one application.) -/
theorem Tryz.utf8_DecodeRuneInString_ascii (s : ByteArray) (x : UInt8) (w : World) (h0 : s.data.toList[0]? = some x) (hx : x.toNat < 128) :
    Calls Tryz.prog 83 #[.string s] w fun e w' => e = .returned (.tuple #[.int .i32 x.toNat, .int .i64 1]) ∧ w' = w := Any.utf8_DecodeRuneInString_ascii Tryz.lays197 s x w h0 hx
def Tryz.lays260_ren : Go.Shelf.Ren := ⟨fun | 260 => 98 | n => n, fun | 9 => 9 | 21 => 21 | 3 => 3 | 4 => 4 | 5 => 5 | 119 => 82 | 0 => 0 | 46 => 68 | 139 => 153 | 138 => 152 | n => n, fun | 3 => 2 | 4 => 3 | n => n⟩
theorem Tryz.lays260 : Go.Proofs.Lays.n260 Tryz.prog Tryz.lays260_ren := {
  mixed := by kernel_rfl
  f260 := Tryz.func98.trans (congrArg some (by kernel_rfl))
  t0 := Tryz.underlying0
  a0 := Tryz.isAgg0
  z0 := Tryz.sizeOf0
  v0 := Tryz.zeroValue0
  t3 := Tryz.underlying3
  a3 := Tryz.isAgg3
  z3 := Tryz.sizeOf3
  v3 := Tryz.zeroValue3
  t4 := Tryz.underlying4
  a4 := Tryz.isAgg4
  z4 := Tryz.sizeOf4
  v4 := Tryz.zeroValue4
  t5 := Tryz.underlying5
  a5 := Tryz.isAgg5
  z5 := Tryz.sizeOf5
  v5 := Tryz.zeroValue5
  t9 := Tryz.underlying9
  a9 := Tryz.isAgg9
  z9 := Tryz.sizeOf9
  v9 := Tryz.zeroValue9
  t21 := Tryz.underlying21
  a21 := Tryz.isAgg21
  z21 := Tryz.sizeOf21
  v21 := Tryz.zeroValue21
  t46 := Tryz.underlying68
  a46 := Tryz.isAgg68
  z46 := Tryz.sizeOf68
  v46 := Tryz.zeroValue68
  t119 := Tryz.underlying82
  a119 := Tryz.isAgg82
  z119 := Tryz.sizeOf82
  t138 := Tryz.underlying152
  a138 := Tryz.isAgg152
  z138 := Tryz.sizeOf152
  v138 := Tryz.zeroValue152
  t139 := Tryz.underlying153
  a139 := Tryz.isAgg153
  z139 := Tryz.sizeOf153
  v139 := Tryz.zeroValue153
  g3 := by kernel_rfl
  g4 := by kernel_rfl }
open Go.RowKit Go.Lib in
theorem Tryz.utf8_decodeRuneInStringSlow (s : ByteArray) (w : World) (hT : Lib.Utf8Tabs 2 3 w) :
    Calls Tryz.prog 98 #[.string s] w fun e w' => e = .returned (.tuple #[.int .i32 (Lib.decodeGo s).1, .int .i64 (Lib.decodeGo s).2]) ∧ Below w.heap.size w w' := Any.utf8_decodeRuneInStringSlow Tryz.lays260 s w hT
open Go.RowKit Go.Lib in
/-- **unicode/utf8.DecodeRuneInString AT EVERY STRING.** (LAID: no walk: one application.) -/
theorem Tryz.utf8_DecodeRuneInString (s : ByteArray) (w : World) (hT : Lib.Utf8Tabs 2 3 w) :
    Calls Tryz.prog 83 #[.string s] w fun e w' => e = .returned (.tuple #[.int .i32 (Lib.decodeGo s).1, .int .i64 (Lib.decodeGo s).2]) ∧ Below w.heap.size w w' := Any.utf8_DecodeRuneInString Tryz.lays197 s w hT
def Tryz.lays311_ren : Go.Shelf.Ren := ⟨fun | 311 => 95 | n => n, fun | 193 => 125 | 49 => 129 | 4 => 4 | 3 => 3 | 0 => 0 | 226 => 148 | 198 => 131 | 46 => 68 | n => n, fun | n => n⟩
theorem Tryz.lays311 : Go.Proofs.Lays.n311 Tryz.prog Tryz.lays311_ren := {
  mixed := by kernel_rfl
  f311 := Tryz.func95.trans (congrArg some (by kernel_rfl))
  t0 := Tryz.underlying0
  a0 := Tryz.isAgg0
  z0 := Tryz.sizeOf0
  v0 := Tryz.zeroValue0
  t3 := Tryz.underlying3
  a3 := Tryz.isAgg3
  z3 := Tryz.sizeOf3
  v3 := Tryz.zeroValue3
  t4 := Tryz.underlying4
  a4 := Tryz.isAgg4
  z4 := Tryz.sizeOf4
  v4 := Tryz.zeroValue4
  t46 := Tryz.underlying68
  a46 := Tryz.isAgg68
  z46 := Tryz.sizeOf68
  v46 := Tryz.zeroValue68
  t49 := Tryz.underlying129
  a49 := Tryz.isAgg129
  z49 := Tryz.sizeOf129
  v49 := Tryz.zeroValue129
  t193 := Tryz.underlying125
  a193 := Tryz.isAgg125
  z193 := Tryz.sizeOf125
  v193 := Tryz.zeroValue125
  t198 := Tryz.underlying131
  a198 := Tryz.isAgg131
  z198 := Tryz.sizeOf131
  v198 := Tryz.zeroValue131
  t226 := Tryz.underlying148
  a226 := Tryz.isAgg148
  z226 := Tryz.sizeOf148
  v226 := Tryz.zeroValue148 }
open Go.RowKit Go.Lib in
theorem Tryz.unicode_is16_white (R oR : Nat) (z : Nat) (w : World) (hz : z < 65536) (hz0 : 255 < z) (c6 : w.cell? ⟨R, oR + 6, none⟩ = some (.int .u16 160)) (c7 : w.cell? ⟨R, oR + 7, none⟩ = some (.int .u16 5760)) (c8 : w.cell? ⟨R, oR + 8, none⟩ = some (.int .u16 5600)) (c9 : w.cell? ⟨R, oR + 9, none⟩ = some (.int .u16 8192)) (c10 : w.cell? ⟨R, oR + 10, none⟩ = some (.int .u16 8202)) (c11 : w.cell? ⟨R, oR + 11, none⟩ = some (.int .u16 1)) (c12 : w.cell? ⟨R, oR + 12, none⟩ = some (.int .u16 8232)) (c13 : w.cell? ⟨R, oR + 13, none⟩ = some (.int .u16 8233)) (c14 : w.cell? ⟨R, oR + 14, none⟩ = some (.int .u16 1)) (c15 : w.cell? ⟨R, oR + 15, none⟩ = some (.int .u16 8239)) (c16 : w.cell? ⟨R, oR + 16, none⟩ = some (.int .u16 8287)) (c17 : w.cell? ⟨R, oR + 17, none⟩ = some (.int .u16 48)) (c18 : w.cell? ⟨R, oR + 18, none⟩ = some (.int .u16 12288)) (c19 : w.cell? ⟨R, oR + 19, none⟩ = some (.int .u16 12288)) (c20 : w.cell? ⟨R, oR + 20, none⟩ = some (.int .u16 1)) :
    Calls Tryz.prog 95 #[.slice (some ⟨R, oR + 6, none⟩) 5 5, .int .u16 z] w fun e w' => e = .returned (.bool (Lib.isSpaceR z)) ∧ Below w.heap.size w w' := Any.unicode_is16_white Tryz.lays311 R oR z w hz hz0 c6 c7 c8 c9 c10 c11 c12 c13 c14 c15 c16 c17 c18 c19 c20
def Tryz.lays261_ren : Go.Shelf.Ren := ⟨fun | 261 => 81 | 311 => 95 | 312 => 96 | n => n, fun | 141 => 108 | 21 => 21 | 4 => 4 | 0 => 0 | 196 => 128 | 193 => 125 | 3 => 3 | 51 => 57 | 198 => 131 | 49 => 129 | 194 => 126 | 201 => 134 | 226 => 148 | 46 => 68 | 227 => 149 | n => n, fun | n => n⟩
theorem Tryz.lays261 : Go.Proofs.Lays.n261 Tryz.prog Tryz.lays261_ren := {
  mixed := by kernel_rfl
  f261 := Tryz.func81.trans (congrArg some (by kernel_rfl))
  f311 := Tryz.func95.trans (congrArg some (by kernel_rfl))
  f312 := Tryz.func96.trans (congrArg some (by kernel_rfl))
  t0 := Tryz.underlying0
  a0 := Tryz.isAgg0
  z0 := Tryz.sizeOf0
  v0 := Tryz.zeroValue0
  t3 := Tryz.underlying3
  a3 := Tryz.isAgg3
  z3 := Tryz.sizeOf3
  v3 := Tryz.zeroValue3
  t4 := Tryz.underlying4
  a4 := Tryz.isAgg4
  z4 := Tryz.sizeOf4
  v4 := Tryz.zeroValue4
  t21 := Tryz.underlying21
  a21 := Tryz.isAgg21
  z21 := Tryz.sizeOf21
  v21 := Tryz.zeroValue21
  t46 := Tryz.underlying68
  a46 := Tryz.isAgg68
  z46 := Tryz.sizeOf68
  v46 := Tryz.zeroValue68
  t49 := Tryz.underlying129
  a49 := Tryz.isAgg129
  z49 := Tryz.sizeOf129
  v49 := Tryz.zeroValue129
  t51 := Tryz.underlying57
  a51 := Tryz.isAgg57
  z51 := Tryz.sizeOf57
  v51 := Tryz.zeroValue57
  t141 := Tryz.underlying108
  a141 := Tryz.isAgg108
  z141 := Tryz.sizeOf108
  v141 := Tryz.zeroValue108
  t193 := Tryz.underlying125
  a193 := Tryz.isAgg125
  z193 := Tryz.sizeOf125
  v193 := Tryz.zeroValue125
  t194 := Tryz.underlying126
  a194 := Tryz.isAgg126
  z194 := Tryz.sizeOf126
  v194 := Tryz.zeroValue126
  t196 := Tryz.underlying128
  a196 := Tryz.isAgg128
  z196 := Tryz.sizeOf128
  v196 := Tryz.zeroValue128
  t198 := Tryz.underlying131
  a198 := Tryz.isAgg131
  z198 := Tryz.sizeOf131
  v198 := Tryz.zeroValue131
  t201 := Tryz.underlying134
  a201 := Tryz.isAgg134
  z201 := Tryz.sizeOf134
  v201 := Tryz.zeroValue134
  t226 := Tryz.underlying148
  a226 := Tryz.isAgg148
  z226 := Tryz.sizeOf148
  v226 := Tryz.zeroValue148
  t227 := Tryz.underlying149
  a227 := Tryz.isAgg149
  z227 := Tryz.sizeOf149
  v227 := Tryz.zeroValue149 }
open Go.RowKit Go.Lib in
/-- unicode.isExcludingLatin(White_Space, r), r beyond U+00FF or negative. (LAID: no walk: one application.) -/
theorem Tryz.unicode_isExcludingLatin_white (T oT R oR : Nat) (r : Int) (w : World) (hlo : -2147483648 ≤ r) (hhi : r ≤ 2147483647) (hr : r < 0 ∨ 255 < r) (h2 : w.cell? ⟨T, oT, none⟩ = some (.slice (some ⟨R, oR, none⟩) 7 7)) (h3 : w.cell? ⟨T, oT + 1, none⟩ = some (.slice none 0 0)) (h4 : w.cell? ⟨T, oT + 2, none⟩ = some (.int .i64 2)) (h5 : ∀ i, i < 21 → w.cell? ⟨R, oR + i, none⟩ = some (.int .u16 (whiteT.getD i 0))) :
    Calls Tryz.prog 81 #[.pointer (some ⟨T, oT, none⟩), .int .i32 r] w fun e w' => e = .returned (.bool (Lib.isSpaceZ r)) ∧ Below w.heap.size w w' := Any.unicode_isExcludingLatin_white Tryz.lays261 T oT R oR r w hlo hhi hr h2 h3 h4 h5
open Go.RowKit Go.Lib in
/-- **unicode.IsSpace AT EVERY int32.** (LAID: no walk: one application.) -/
theorem Tryz.unicode_IsSpace_any (r : Int) (w : World) (hlo : -2147483648 ≤ r) (hhi : r ≤ 2147483647) (hW : Lib.WhiteTab 1 w) :
    Calls Tryz.prog 58 #[.int .i32 r] w fun e w' => e = .returned (.bool (Lib.isSpaceZ r)) ∧ Below w.heap.size w w' := Any.unicode_IsSpace_any Tryz.lays199 r w hlo hhi hW
def Tryz.lays271_ren : Go.Shelf.Ren := ⟨fun | 271 => 97 | 120 => 113 | 197 => 83 | 260 => 98 | n => n, fun | 9 => 9 | 21 => 21 | 3 => 3 | 4 => 4 | 5 => 5 | 105 => 110 | 119 => 82 | 0 => 0 | 46 => 68 | 139 => 153 | 138 => 152 | n => n, fun | 3 => 2 | 4 => 3 | n => n⟩
theorem Tryz.lays271 : Go.Proofs.Lays.n271 Tryz.prog Tryz.lays271_ren := {
  mixed := by kernel_rfl
  f120 := Tryz.func113.trans (congrArg some (by kernel_rfl))
  f197 := Tryz.func83.trans (congrArg some (by kernel_rfl))
  f260 := Tryz.func98.trans (congrArg some (by kernel_rfl))
  f271 := Tryz.func97.trans (congrArg some (by kernel_rfl))
  t0 := Tryz.underlying0
  a0 := Tryz.isAgg0
  z0 := Tryz.sizeOf0
  v0 := Tryz.zeroValue0
  t3 := Tryz.underlying3
  a3 := Tryz.isAgg3
  z3 := Tryz.sizeOf3
  v3 := Tryz.zeroValue3
  t4 := Tryz.underlying4
  a4 := Tryz.isAgg4
  z4 := Tryz.sizeOf4
  v4 := Tryz.zeroValue4
  t5 := Tryz.underlying5
  a5 := Tryz.isAgg5
  z5 := Tryz.sizeOf5
  v5 := Tryz.zeroValue5
  t9 := Tryz.underlying9
  a9 := Tryz.isAgg9
  z9 := Tryz.sizeOf9
  v9 := Tryz.zeroValue9
  t21 := Tryz.underlying21
  a21 := Tryz.isAgg21
  z21 := Tryz.sizeOf21
  v21 := Tryz.zeroValue21
  t46 := Tryz.underlying68
  a46 := Tryz.isAgg68
  z46 := Tryz.sizeOf68
  v46 := Tryz.zeroValue68
  t105 := Tryz.underlying110
  a105 := Tryz.isAgg110
  z105 := Tryz.sizeOf110
  v105 := Tryz.zeroValue110
  t119 := Tryz.underlying82
  a119 := Tryz.isAgg82
  z119 := Tryz.sizeOf82
  t138 := Tryz.underlying152
  a138 := Tryz.isAgg152
  z138 := Tryz.sizeOf152
  v138 := Tryz.zeroValue152
  t139 := Tryz.underlying153
  a139 := Tryz.isAgg153
  z139 := Tryz.sizeOf153
  v139 := Tryz.zeroValue153
  g3 := by kernel_rfl
  g4 := by kernel_rfl }
open Go.RowKit Go.Lib in
/-- **unicode/utf8.DecodeLastRuneInString AT EVERY STRING.** (LAID: no walk: one application.) -/
theorem Tryz.utf8_DecodeLastRuneInString (s : ByteArray) (w : World) (hs : s.size ≤ 9223372036854775807) (hT : Lib.Utf8Tabs 2 3 w) :
    Calls Tryz.prog 97 #[.string s] w fun e w' => e = .returned (.tuple #[.int .i32 (Lib.decodeLastL s.data.toList).1, .int .i64 (Lib.decodeLastL s.data.toList).2]) ∧ Below w.heap.size w w' := Any.utf8_DecodeLastRuneInString Tryz.lays271 s w hs hT
open Go.RowKit in
theorem Tryz.strings_TrimSpace_any (s : ByteArray) (w : World) (hs : s.size ≤ 9223372036854775807) (htab : Lib.TabIs Tryz.prog w "strings.asciiSpace" .u8 Lib.asciiSpaceTab) (hU8 : Lib.Utf8Tabs 2 3 w) (hWS : Lib.WhiteTab 1 w) :
    Calls Tryz.prog 45 #[.string s] w fun e w' => e = .returned (.string ⟨(Lib.trimSpaceD s.data.toList).toArray⟩) ∧ Below w.heap.size w w' := Any.strings_TrimSpace_any Tryz.lays163 Tryz.Space_Extra_163 s w hs htab hU8 hWS
open Go.RowKit Go.Lib in
theorem Tryz.unicode_is16_any (T : Array Rg) (R oR cap : Nat) (z : Nat) (w : World) (hz : z < 65536) (hT : RgTab .u16 R oR T w) (hok : RgOk 65536 T) (hn : T.size ≤ 1000000000) :
    Calls Tryz.prog 95 #[.slice (some ⟨R, oR, none⟩) T.size cap, .int .u16 z] w fun e w' => e = .returned (.bool (is16Go T z)) ∧ ∃ q, w' = w.drewN q := Any.unicode_is16_any Tryz.lays311 T R oR cap z w hz hT hok hn
def Tryz.lays312_ren : Go.Shelf.Ren := ⟨fun | 312 => 96 | n => n, fun | 194 => 126 | 51 => 57 | 4 => 4 | 3 => 3 | 0 => 0 | 227 => 149 | 201 => 134 | 46 => 68 | n => n, fun | n => n⟩
theorem Tryz.lays312 : Go.Proofs.Lays.n312 Tryz.prog Tryz.lays312_ren := {
  mixed := by kernel_rfl
  f312 := Tryz.func96.trans (congrArg some (by kernel_rfl))
  t0 := Tryz.underlying0
  a0 := Tryz.isAgg0
  z0 := Tryz.sizeOf0
  v0 := Tryz.zeroValue0
  t3 := Tryz.underlying3
  a3 := Tryz.isAgg3
  z3 := Tryz.sizeOf3
  v3 := Tryz.zeroValue3
  t4 := Tryz.underlying4
  a4 := Tryz.isAgg4
  z4 := Tryz.sizeOf4
  v4 := Tryz.zeroValue4
  t46 := Tryz.underlying68
  a46 := Tryz.isAgg68
  z46 := Tryz.sizeOf68
  v46 := Tryz.zeroValue68
  t51 := Tryz.underlying57
  a51 := Tryz.isAgg57
  z51 := Tryz.sizeOf57
  v51 := Tryz.zeroValue57
  t194 := Tryz.underlying126
  a194 := Tryz.isAgg126
  z194 := Tryz.sizeOf126
  v194 := Tryz.zeroValue126
  t201 := Tryz.underlying134
  a201 := Tryz.isAgg134
  z201 := Tryz.sizeOf134
  v201 := Tryz.zeroValue134
  t227 := Tryz.underlying149
  a227 := Tryz.isAgg149
  z227 := Tryz.sizeOf149
  v227 := Tryz.zeroValue149 }
open Go.RowKit Go.Lib in
theorem Tryz.unicode_is32_any (T : Array Rg) (R oR cap : Nat) (z : Nat) (w : World) (hz : z < 4294967296) (hT : RgTab .u32 R oR T w) (hok : RgOk 4294967296 T) (hn : T.size ≤ 1000000000) :
    Calls Tryz.prog 96 #[.slice (some ⟨R, oR, none⟩) T.size cap, .int .u32 z] w fun e w' => e = .returned (.bool (is32Go T z)) ∧ Below w.heap.size w w' := Any.unicode_is32_any Tryz.lays312 T R oR cap z w hz hT hok hn
open Go.RowKit Go.Lib in
theorem Tryz.unicode_isExcludingLatin_any (Tb oT : Nat) (T : RTab) (r : Int) (w : World) (hlo : -2147483648 ≤ r) (hhi : r ≤ 2147483647) (hA : RTabAt Tb oT T w) (hok : RTabOk T) :
    Calls Tryz.prog 81 #[.pointer (some ⟨Tb, oT, none⟩), .int .i32 r] w fun e w' => e = .returned (.bool (exclGo T r)) ∧ Below w.heap.size w w' := Any.unicode_isExcludingLatin_any Tryz.lays261 Tb oT T r w hlo hhi hA hok
def Tryz.laysNm237_ren : Go.Shelf.Ren := ⟨fun | 37 => 90 | n => n, fun | 3 => 3 | 4 => 4 | n => n, fun | n => n⟩
theorem Tryz.laysNm237 : Go.Proofs.Lays2.n37 Tryz.prog Tryz.laysNm237_ren := {
  mixed := by kernel_rfl
  f37 := Tryz.func90.trans (congrArg some (by kernel_rfl))
  t3 := Tryz.underlying3
  a3 := Tryz.isAgg3
  z3 := Tryz.sizeOf3
  v3 := Tryz.zeroValue3
  t4 := Tryz.underlying4
  a4 := Tryz.isAgg4
  z4 := Tryz.sizeOf4
  v4 := Tryz.zeroValue4 }
open Go.RowKit Go.Lib in
/-- cmp.isNaN[int]: 'x != x': false. (LAID: no walk: one application.) -/
theorem Tryz.cmp_isNaN_int2 (x : Int) (w : World) :
    Calls Tryz.prog 90 #[.int .i64 x] w fun e w' => e = .returned (.bool false) ∧ w' = w := Any.cmp_isNaN_int2 Tryz.laysNm237 x w
def Tryz.laysNm231_ren : Go.Shelf.Ren := ⟨fun | 31 => 70 | 37 => 90 | n => n, fun | 3 => 3 | 4 => 4 | n => n, fun | n => n⟩
theorem Tryz.laysNm231 : Go.Proofs.Lays2.n31 Tryz.prog Tryz.laysNm231_ren := {
  mixed := by kernel_rfl
  f31 := Tryz.func70.trans (congrArg some (by kernel_rfl))
  f37 := Tryz.func90.trans (congrArg some (by kernel_rfl))
  t3 := Tryz.underlying3
  a3 := Tryz.isAgg3
  z3 := Tryz.sizeOf3
  v3 := Tryz.zeroValue3
  t4 := Tryz.underlying4
  a4 := Tryz.isAgg4
  z4 := Tryz.sizeOf4
  v4 := Tryz.zeroValue4 }
open Go.RowKit Go.Lib in
/-- cmp.Less[int]: "Less reports whether x is less than y.": 'x < y'; the world is as it was. (LAID: no walk: one application.) -/
theorem Tryz.cmp_Less_int2 (x y : Int) (w : World) :
    Calls Tryz.prog 70 #[.int .i64 x, .int .i64 y] w fun e w' => e = .returned (.bool (decide (x < y))) ∧ w' = w := Any.cmp_Less_int2 Tryz.laysNm231 x y w
open Go.RowKit Go.Sort in
/-- .. and plain. (LAID: no walk: one application.) -/
theorem Tryz.slices_Sort_string_none (p : Option Addr) (cap : Nat) (w : World) :
    Calls Tryz.prog 78 #[.slice p 0 cap] w fun e w' => e = .returned (.tuple #[]) ∧ w' = w := Any.slices_Sort_string_none Tryz.lays190 p cap w
open Go.RowKit Go.Sort in
/-- .. and plain. (LAID: no walk: one application.) -/
theorem Tryz.slices_Sort_int_none (p : Option Addr) (cap : Nat) (w : World) :
    Calls Tryz.prog 40 #[.slice p 0 cap] w fun e w' => e = .returned (.tuple #[]) ∧ w' = w := Any.slices_Sort_int_none Tryz.lays189 p cap w
open Go.RowKit Go.Sort in
/-- .. and plain. (LAID: no walk: one application.) -/
theorem Tryz.sort_Strings_none (p : Option Addr) (cap : Nat) (w : World) :
    Calls Tryz.prog 54 #[.slice p 0 cap] w fun e w' => e = .returned (.tuple #[]) ∧ w' = w := Any.sort_Strings_none Tryz.lays192 p cap w
open Go.RowKit Go.Sort in
/-- .. and plain. (LAID: no walk: one application.) -/
theorem Tryz.sort_Ints_none (p : Option Addr) (cap : Nat) (w : World) :
    Calls Tryz.prog 25 #[.slice p 0 cap] w fun e w' => e = .returned (.tuple #[]) ∧ w' = w := Any.sort_Ints_none Tryz.lays191 p cap w
def Tryz.lays115_ren : Go.Shelf.Ren := ⟨fun | 115 => 34 | n => n, fun | 37 => 28 | 4 => 4 | 9 => 9 | 5 => 5 | n => n, fun | n => n⟩
theorem Tryz.lays115 : Go.Proofs.Lays.n115 Tryz.prog Tryz.lays115_ren := {
  mixed := by kernel_rfl
  f115 := Tryz.func34.trans (congrArg some (by kernel_rfl))
  t4 := Tryz.underlying4
  a4 := Tryz.isAgg4
  z4 := Tryz.sizeOf4
  v4 := Tryz.zeroValue4
  t9 := Tryz.underlying9
  a9 := Tryz.isAgg9
  z9 := Tryz.sizeOf9
  v9 := Tryz.zeroValue9
  t37 := Tryz.underlying28
  a37 := Tryz.isAgg28
  z37 := Tryz.sizeOf28
  v37 := Tryz.zeroValue28 }
/-- bytes.Equal: "Equal reports whether a and b are the same length and contain the same bytes. A nil argument is equivalent to an empty slice.": IT RETURNS 'the bytes of the one == the bytes of the other'; the world is as it was. THE TWO ARGUMENTS COME AS WHATEVER VALUES, each with the one fact that the walk wants of it: what 'string(..)' of it gives: for a slice whose cells you know: 'run_convert_bytes_arg' (Derived/Laws/BytesArg.lean) hands that fact; for a nil one: 'run_convert_bytes_nil' (with xs := []). (LAID: no walk: one application.) -/
theorem Tryz.bytes_Equal (v1 v2 : Value) (xs ys : List Int) (w : World) (h1 : (convert 28 9 v1).run Tryz.prog w = .ok (.string (strOfNums xs)) w) (h2 : (convert 28 9 v2).run Tryz.prog w = .ok (.string (strOfNums ys)) w) :
    Calls Tryz.prog 34 #[v1, v2] w fun e w' => e = .returned (.bool (Lib.bytesOf xs == Lib.bytesOf ys)) ∧ w' = w := Any.bytes_Equal Tryz.lays115 v1 v2 xs ys w h1 h2
def Tryz.laysnb116_ren : Go.Shelf.Ren := ⟨fun | 116 => 22 | 115 => 34 | n => n, fun | 37 => 28 | 4 => 4 | 3 => 3 | 9 => 9 | 5 => 5 | n => n, fun | n => n⟩
theorem Tryz.laysnb116 : Go.Proofs.Lays.nb116 Tryz.prog Tryz.laysnb116_ren := {
  mixed := by kernel_rfl
  f115 := Tryz.func34.trans (congrArg some (by kernel_rfl))
  f116 := Tryz.func22.trans (congrArg some (by kernel_rfl))
  t3 := Tryz.underlying3
  a3 := Tryz.isAgg3
  z3 := Tryz.sizeOf3
  v3 := Tryz.zeroValue3
  t4 := Tryz.underlying4
  a4 := Tryz.isAgg4
  z4 := Tryz.sizeOf4
  v4 := Tryz.zeroValue4
  t9 := Tryz.underlying9
  a9 := Tryz.isAgg9
  z9 := Tryz.sizeOf9
  v9 := Tryz.zeroValue9
  t37 := Tryz.underlying28
  a37 := Tryz.isAgg28
  z37 := Tryz.sizeOf28
  v37 := Tryz.zeroValue28
  t5 := Tryz.underlying5
  a5 := Tryz.isAgg5
  z5 := Tryz.sizeOf5
  v5 := Tryz.zeroValue5 }
/-- bytes.HasPrefix: "HasPrefix reports whether the byte slice s begins with prefix.": IT RETURNS 'Lib.hasPrefix (the bytes of s) (the bytes of prefix)'; the world is as it was. ITS CALLEE bytes.Equal IS MET BY ITS OWN CONTRACT OFF THE SHELF (lay that first). 'xs', 'ys': the numbers that the two slices' cells hold. (LAID: no walk: one application.) -/
theorem Tryz.bytes_HasPrefix (b1 o1 n c b2 o2 m d : Nat) (xs ys : List Int) (w : World) (hx : xs.length = n) (hy : ys.length = m) (hnc : n ≤ c) (hc1 : ∀ i, i < n → w.cell? ⟨b1, o1 + i, none⟩ = some (.int .u8 (xs.getD i 0))) (hc2 : ∀ i, i < m → w.cell? ⟨b2, o2 + i, none⟩ = some (.int .u8 (ys.getD i 0))) :
    Calls Tryz.prog 22 #[.slice (some ⟨b1, o1, none⟩) n c, .slice (some ⟨b2, o2, none⟩) m d] w fun e w' => e = .returned (.bool (Lib.hasPrefix (Lib.bytesOf xs) (Lib.bytesOf ys))) ∧ w' = w := Any.bytes_HasPrefix Tryz.laysnb116 b1 o1 n c b2 o2 m d xs ys w hx hy hnc hc1 hc2
def Tryz.laysnb117_ren : Go.Shelf.Ren := ⟨fun | 117 => 39 | 115 => 34 | n => n, fun | 37 => 28 | 4 => 4 | 3 => 3 | 9 => 9 | 5 => 5 | n => n, fun | n => n⟩
theorem Tryz.laysnb117 : Go.Proofs.Lays.nb117 Tryz.prog Tryz.laysnb117_ren := {
  mixed := by kernel_rfl
  f115 := Tryz.func34.trans (congrArg some (by kernel_rfl))
  f117 := Tryz.func39.trans (congrArg some (by kernel_rfl))
  t3 := Tryz.underlying3
  a3 := Tryz.isAgg3
  z3 := Tryz.sizeOf3
  v3 := Tryz.zeroValue3
  t4 := Tryz.underlying4
  a4 := Tryz.isAgg4
  z4 := Tryz.sizeOf4
  v4 := Tryz.zeroValue4
  t9 := Tryz.underlying9
  a9 := Tryz.isAgg9
  z9 := Tryz.sizeOf9
  v9 := Tryz.zeroValue9
  t37 := Tryz.underlying28
  a37 := Tryz.isAgg28
  z37 := Tryz.sizeOf28
  v37 := Tryz.zeroValue28
  t5 := Tryz.underlying5
  a5 := Tryz.isAgg5
  z5 := Tryz.sizeOf5
  v5 := Tryz.zeroValue5 }
/-- bytes.HasSuffix: "HasSuffix reports whether the byte slice s ends with suffix.": IT RETURNS 'Lib.hasSuffix (the bytes of s) (the bytes of suffix)'; the world is as it was. ITS CALLEE bytes.Equal IS MET BY ITS OWN CONTRACT OFF THE SHELF (lay that first). (An empty suffix too: there the model's slicing may keep the slice's address, where the cut falls at its very capacity: the value bears an 'if': 'gA' pays both arms.) (LAID: no walk: one application.) -/
theorem Tryz.bytes_HasSuffix (b1 o1 n c b2 o2 m d : Nat) (xs ys : List Int) (w : World) (hx : xs.length = n) (hy : ys.length = m) (hnc : n ≤ c) (hbig : n ≤ 9223372036854775807) (hc1 : ∀ i, i < n → w.cell? ⟨b1, o1 + i, none⟩ = some (.int .u8 (xs.getD i 0))) (hc2 : ∀ i, i < m → w.cell? ⟨b2, o2 + i, none⟩ = some (.int .u8 (ys.getD i 0))) :
    Calls Tryz.prog 39 #[.slice (some ⟨b1, o1, none⟩) n c, .slice (some ⟨b2, o2, none⟩) m d] w fun e w' => e = .returned (.bool (Lib.hasSuffix (Lib.bytesOf xs) (Lib.bytesOf ys))) ∧ w' = w := Any.bytes_HasSuffix Tryz.laysnb117 b1 o1 n c b2 o2 m d xs ys w hx hy hnc hbig hc1 hc2
end Go.Proofs
