/-
  DERIVED: THE SHELF's CONTRACTS AT THIS DUMP, IN PLAIN WORDS (tools/lay-plain.mjs out of 'YtienokiifhcelaaDoorShelfT.lean', which tools/lay-shelf.mjs wrote): THE SAME DECLARATIONS UNDER THE SAME NAMES: 'import', 'namespace', 'open', 'def', 'theorem' AND NOTHING ELSE: no command of the shelf's: FOR A HAND-IN. Each laying: the table of numbers ('.._ren') and one theorem, a field a fact of the dump's own or the kernel's comparison; each contract: ONE APPLICATION.
-/
import Derived.Shelf.Unicode.ValidAny
import Derived.Shelf.Strings.TrimSpace
import Derived.Shelf.Small.Utf8
import Derived.Shelf.GgClosure.StringsIndexFunc
import Derived.Shelf.Unicode.Latin
import Derived.Shelf.Unicode.Props
import Derived.Shelf.LaysM
import Derived.Shelf.Unicode.PropsLaid
import Derived.Shelf.Unicode.Decode
import Derived.Shelf.Unicode.DecodeSlow
import Derived.Shelf.Unicode.DecodeAny
import Derived.Shelf.Unicode.Is16White
import Derived.Shelf.Unicode.IsSpaceAny
import Derived.Shelf.Unicode.DecodeLast
import Derived.Shelf.Strings.TrimSpaceAny
import Derived.Shelf.Unicode.Is16WhiteD
import Derived.Shelf.Unicode.Is16Any
import Derived.Shelf.Unicode.Is32Any
import Derived.Shelf.Unicode.ExclAny
import Derived.Shelf.Unicode.PredsAny
import Derived.Test.YtienokiifhcelaaDoorProg
namespace Go.Proofs
open Go.Shelf
def Tryd.lays163_ren : Go.Shelf.Ren := ⟨fun | 163 => 14 | 237 => 17 | 199 => 18 | 238 => 19 | 272 => 22 | 261 => 16 | 273 => 23 | 197 => 24 | 315 => 25 | 311 => 20 | 312 => 21 | 271 => 26 | 260 => 27 | 120 => 28 | n => n, fun | 9 => 9 | 37 => 43 | 3 => 3 | 0 => 0 | 5 => 5 | 4 => 4 | 40 => 31 | 119 => 35 | 21 => 21 | 51 => 40 | 141 => 42 | 105 => 58 | 196 => 49 | 193 => 46 | 198 => 52 | 49 => 50 | 194 => 47 | 201 => 55 | 226 => 60 | 46 => 39 | 227 => 61 | 139 => 38 | 138 => 37 | n => n, fun | 0 => 6 | 6 => 7 | 3 => 0 | 4 => 1 | n => n⟩
theorem Tryd.lays163 : Go.Proofs.Lays.n163 Tryd.prog Tryd.lays163_ren := {
  mixed := by kernel_rfl
  f120 := Tryd.func28.trans (congrArg some (by kernel_rfl))
  f163 := Tryd.func14.trans (congrArg some (by kernel_rfl))
  f197 := Tryd.func24.trans (congrArg some (by kernel_rfl))
  f199 := Tryd.func18.trans (congrArg some (by kernel_rfl))
  f237 := Tryd.func17.trans (congrArg some (by kernel_rfl))
  f238 := Tryd.func19.trans (congrArg some (by kernel_rfl))
  f260 := Tryd.func27.trans (congrArg some (by kernel_rfl))
  f261 := Tryd.func16.trans (congrArg some (by kernel_rfl))
  f271 := Tryd.func26.trans (congrArg some (by kernel_rfl))
  f272 := Tryd.func22.trans (congrArg some (by kernel_rfl))
  f273 := Tryd.func23.trans (congrArg some (by kernel_rfl))
  f311 := Tryd.func20.trans (congrArg some (by kernel_rfl))
  f312 := Tryd.func21.trans (congrArg some (by kernel_rfl))
  f315 := Tryd.func25.trans (congrArg some (by kernel_rfl))
  t0 := Tryd.underlying0
  a0 := Tryd.isAgg0
  z0 := Tryd.sizeOf0
  v0 := Tryd.zeroValue0
  t3 := Tryd.underlying3
  a3 := Tryd.isAgg3
  z3 := Tryd.sizeOf3
  v3 := Tryd.zeroValue3
  t4 := Tryd.underlying4
  a4 := Tryd.isAgg4
  z4 := Tryd.sizeOf4
  v4 := Tryd.zeroValue4
  t5 := Tryd.underlying5
  a5 := Tryd.isAgg5
  z5 := Tryd.sizeOf5
  v5 := Tryd.zeroValue5
  t9 := Tryd.underlying9
  a9 := Tryd.isAgg9
  z9 := Tryd.sizeOf9
  v9 := Tryd.zeroValue9
  t21 := Tryd.underlying21
  a21 := Tryd.isAgg21
  z21 := Tryd.sizeOf21
  v21 := Tryd.zeroValue21
  t37 := Tryd.underlying43
  a37 := Tryd.isAgg43
  z37 := Tryd.sizeOf43
  v37 := Tryd.zeroValue43
  t40 := Tryd.underlying31
  a40 := Tryd.isAgg31
  z40 := Tryd.sizeOf31
  v40 := Tryd.zeroValue31
  t46 := Tryd.underlying39
  a46 := Tryd.isAgg39
  z46 := Tryd.sizeOf39
  v46 := Tryd.zeroValue39
  t49 := Tryd.underlying50
  a49 := Tryd.isAgg50
  z49 := Tryd.sizeOf50
  v49 := Tryd.zeroValue50
  t51 := Tryd.underlying40
  a51 := Tryd.isAgg40
  z51 := Tryd.sizeOf40
  v51 := Tryd.zeroValue40
  t105 := Tryd.underlying58
  a105 := Tryd.isAgg58
  z105 := Tryd.sizeOf58
  v105 := Tryd.zeroValue58
  t119 := Tryd.underlying35
  a119 := Tryd.isAgg35
  z119 := Tryd.sizeOf35
  t138 := Tryd.underlying37
  a138 := Tryd.isAgg37
  z138 := Tryd.sizeOf37
  v138 := Tryd.zeroValue37
  t139 := Tryd.underlying38
  a139 := Tryd.isAgg38
  z139 := Tryd.sizeOf38
  v139 := Tryd.zeroValue38
  t141 := Tryd.underlying42
  a141 := Tryd.isAgg42
  z141 := Tryd.sizeOf42
  v141 := Tryd.zeroValue42
  t193 := Tryd.underlying46
  a193 := Tryd.isAgg46
  z193 := Tryd.sizeOf46
  v193 := Tryd.zeroValue46
  t194 := Tryd.underlying47
  a194 := Tryd.isAgg47
  z194 := Tryd.sizeOf47
  v194 := Tryd.zeroValue47
  t196 := Tryd.underlying49
  a196 := Tryd.isAgg49
  z196 := Tryd.sizeOf49
  v196 := Tryd.zeroValue49
  t198 := Tryd.underlying52
  a198 := Tryd.isAgg52
  z198 := Tryd.sizeOf52
  v198 := Tryd.zeroValue52
  t201 := Tryd.underlying55
  a201 := Tryd.isAgg55
  z201 := Tryd.sizeOf55
  v201 := Tryd.zeroValue55
  t226 := Tryd.underlying60
  a226 := Tryd.isAgg60
  z226 := Tryd.sizeOf60
  v226 := Tryd.zeroValue60
  t227 := Tryd.underlying61
  a227 := Tryd.isAgg61
  z227 := Tryd.sizeOf61
  v227 := Tryd.zeroValue61
  g0 := by kernel_rfl
  g3 := by kernel_rfl
  g4 := by kernel_rfl
  g6 := by kernel_rfl }
theorem Tryd.Space_Extra_163 : Space.Extra Tryd.prog Tryd.lays163_ren := {
  gNamed := by kernel_rfl }
open Go.RowKit in
theorem Tryd.strings_TrimSpace (s : ByteArray) (w : World) (hs : s.size ≤ 9223372036854775807) (hascii : ∀ (j : Nat) b, s.data.toList[j]? = some b → b.toNat < 128) (htab : Lib.TabIs Tryd.prog w "strings.asciiSpace" .u8 Lib.asciiSpaceTab) :
    Calls Tryd.prog 14 #[.string s] w fun e w' => e = .returned (.string ⟨(Lib.trimSpace s.data.toList).toArray⟩) ∧ w' = Lib.bytesWorld w 5 s := Any.strings_TrimSpace Tryd.lays163 Tryd.Space_Extra_163 s w hs hascii htab
def Tryd.lays120_ren : Go.Shelf.Ren := ⟨fun | 120 => 28 | n => n, fun | 5 => 5 | 4 => 4 | n => n, fun | n => n⟩
theorem Tryd.lays120 : Go.Proofs.Lays.n120 Tryd.prog Tryd.lays120_ren := {
  mixed := by kernel_rfl
  f120 := Tryd.func28.trans (congrArg some (by kernel_rfl))
  t4 := Tryd.underlying4
  a4 := Tryd.isAgg4
  z4 := Tryd.sizeOf4
  v4 := Tryd.zeroValue4
  t5 := Tryd.underlying5
  a5 := Tryd.isAgg5
  z5 := Tryd.sizeOf5
  v5 := Tryd.zeroValue5 }
/-- utf8.RuneStart: "RuneStart reports whether the byte could be the first byte of an encoded, possibly invalid rune. Second and subsequent bytes always have the top two bits set to 10.": IT RETURNS 'Lib.runeStart b'; the world is as it was. ('h0', 'h1': b is a byte: a caller has it of every byte that it was handed.) (LAID: no walk: one application.) -/
theorem Tryd.utf8_RuneStart (b : Int) (w : World) (h0 : 0 ≤ b) (h1 : b < 256) :
    Calls Tryd.prog 28 #[.int .u8 b] w fun e w' => e = .returned (.bool (Lib.runeStart b)) ∧ w' = w := Any.utf8_RuneStart Tryd.lays120 b w h0 h1
def Tryd.lays315_ren : Go.Shelf.Ren := ⟨fun | 315 => 25 | n => n, fun | 9 => 9 | 40 => 31 | 4 => 4 | 3 => 3 | 0 => 0 | 21 => 21 | n => n, fun | n => n⟩
theorem Tryd.lays315 : Go.Proofs.Lays.n315 Tryd.prog Tryd.lays315_ren := {
  mixed := by kernel_rfl
  f315 := Tryd.func25.trans (congrArg some (by kernel_rfl))
  t0 := Tryd.underlying0
  a0 := Tryd.isAgg0
  z0 := Tryd.sizeOf0
  v0 := Tryd.zeroValue0
  t3 := Tryd.underlying3
  a3 := Tryd.isAgg3
  z3 := Tryd.sizeOf3
  v3 := Tryd.zeroValue3
  t4 := Tryd.underlying4
  a4 := Tryd.isAgg4
  z4 := Tryd.sizeOf4
  v4 := Tryd.zeroValue4
  t9 := Tryd.underlying9
  a9 := Tryd.isAgg9
  z9 := Tryd.sizeOf9
  v9 := Tryd.zeroValue9
  t21 := Tryd.underlying21
  a21 := Tryd.isAgg21
  z21 := Tryd.sizeOf21
  v21 := Tryd.zeroValue21
  t40 := Tryd.underlying31
  a40 := Tryd.isAgg31
  z40 := Tryd.sizeOf31
  v40 := Tryd.zeroValue31 }
open Go.RowKit Go.Lib in
theorem Tryd.strings_indexFunc (g : Nat) (lb : Array Value) (eg : ∀ args w, (callFunc g args).run Tryd.prog w = .ok (.enter g args) w) (p : Nat → Bool) (truth : Bool) (s : ByteArray) (w : World) (hp : PredAt Tryd.prog g lb encR p w) :
    Calls Tryd.prog 25 #[.string s, .func (.func g) #[] lb, .bool truth] w fun e w' => e = .returned (.int .i64 (Lib.idxFunc p truth s)) ∧ Below w.heap.size w w' := Any.strings_indexFunc Tryd.lays315 g lb eg p truth s w hp
def Tryd.lays198_ren : Go.Shelf.Ren := ⟨fun | 198 => 13 | 261 => 16 | 311 => 20 | 312 => 21 | n => n, fun | 21 => 21 | 4 => 4 | 141 => 42 | 0 => 0 | 196 => 49 | 193 => 46 | 3 => 3 | 51 => 40 | 198 => 52 | 49 => 50 | 194 => 47 | 201 => 55 | 226 => 60 | 46 => 39 | 227 => 61 | n => n, fun | 5 => 5 | n => n⟩
theorem Tryd.lays198 : Go.Proofs.Lays.n198 Tryd.prog Tryd.lays198_ren := {
  mixed := by kernel_rfl
  f198 := Tryd.func13.trans (congrArg some (by kernel_rfl))
  f261 := Tryd.func16.trans (congrArg some (by kernel_rfl))
  f311 := Tryd.func20.trans (congrArg some (by kernel_rfl))
  f312 := Tryd.func21.trans (congrArg some (by kernel_rfl))
  t0 := Tryd.underlying0
  a0 := Tryd.isAgg0
  z0 := Tryd.sizeOf0
  v0 := Tryd.zeroValue0
  t3 := Tryd.underlying3
  a3 := Tryd.isAgg3
  z3 := Tryd.sizeOf3
  v3 := Tryd.zeroValue3
  t4 := Tryd.underlying4
  a4 := Tryd.isAgg4
  z4 := Tryd.sizeOf4
  v4 := Tryd.zeroValue4
  t21 := Tryd.underlying21
  a21 := Tryd.isAgg21
  z21 := Tryd.sizeOf21
  v21 := Tryd.zeroValue21
  t46 := Tryd.underlying39
  a46 := Tryd.isAgg39
  z46 := Tryd.sizeOf39
  v46 := Tryd.zeroValue39
  t49 := Tryd.underlying50
  a49 := Tryd.isAgg50
  z49 := Tryd.sizeOf50
  v49 := Tryd.zeroValue50
  t51 := Tryd.underlying40
  a51 := Tryd.isAgg40
  z51 := Tryd.sizeOf40
  v51 := Tryd.zeroValue40
  t141 := Tryd.underlying42
  a141 := Tryd.isAgg42
  z141 := Tryd.sizeOf42
  v141 := Tryd.zeroValue42
  t193 := Tryd.underlying46
  a193 := Tryd.isAgg46
  z193 := Tryd.sizeOf46
  v193 := Tryd.zeroValue46
  t194 := Tryd.underlying47
  a194 := Tryd.isAgg47
  z194 := Tryd.sizeOf47
  v194 := Tryd.zeroValue47
  t196 := Tryd.underlying49
  a196 := Tryd.isAgg49
  z196 := Tryd.sizeOf49
  v196 := Tryd.zeroValue49
  t198 := Tryd.underlying52
  a198 := Tryd.isAgg52
  z198 := Tryd.sizeOf52
  v198 := Tryd.zeroValue52
  t201 := Tryd.underlying55
  a201 := Tryd.isAgg55
  z201 := Tryd.sizeOf55
  v201 := Tryd.zeroValue55
  t226 := Tryd.underlying60
  a226 := Tryd.isAgg60
  z226 := Tryd.sizeOf60
  v226 := Tryd.zeroValue60
  t227 := Tryd.underlying61
  a227 := Tryd.isAgg61
  z227 := Tryd.sizeOf61
  v227 := Tryd.zeroValue61
  g5 := by kernel_rfl }
open Go.RowKit Go.Lib in
theorem Tryd.unicode_IsDigit (r : Int) (w : World) (h : r ≤ 255) :
    Calls Tryd.prog 13 #[.int .i32 r] w fun e w' => e = .returned (.bool (Lib.isDigitL r)) ∧ w' = w := Any.unicode_IsDigit Tryd.lays198 r w h
def Tryd.lays199_ren : Go.Shelf.Ren := ⟨fun | 199 => 18 | 261 => 16 | 311 => 20 | 312 => 21 | n => n, fun | 21 => 21 | 4 => 4 | 51 => 40 | 141 => 42 | 0 => 0 | 196 => 49 | 193 => 46 | 3 => 3 | 198 => 52 | 49 => 50 | 194 => 47 | 201 => 55 | 226 => 60 | 46 => 39 | 227 => 61 | n => n, fun | 6 => 7 | n => n⟩
theorem Tryd.lays199 : Go.Proofs.Lays.n199 Tryd.prog Tryd.lays199_ren := {
  mixed := by kernel_rfl
  f199 := Tryd.func18.trans (congrArg some (by kernel_rfl))
  f261 := Tryd.func16.trans (congrArg some (by kernel_rfl))
  f311 := Tryd.func20.trans (congrArg some (by kernel_rfl))
  f312 := Tryd.func21.trans (congrArg some (by kernel_rfl))
  t0 := Tryd.underlying0
  a0 := Tryd.isAgg0
  z0 := Tryd.sizeOf0
  v0 := Tryd.zeroValue0
  t3 := Tryd.underlying3
  a3 := Tryd.isAgg3
  z3 := Tryd.sizeOf3
  v3 := Tryd.zeroValue3
  t4 := Tryd.underlying4
  a4 := Tryd.isAgg4
  z4 := Tryd.sizeOf4
  v4 := Tryd.zeroValue4
  t21 := Tryd.underlying21
  a21 := Tryd.isAgg21
  z21 := Tryd.sizeOf21
  v21 := Tryd.zeroValue21
  t46 := Tryd.underlying39
  a46 := Tryd.isAgg39
  z46 := Tryd.sizeOf39
  v46 := Tryd.zeroValue39
  t49 := Tryd.underlying50
  a49 := Tryd.isAgg50
  z49 := Tryd.sizeOf50
  v49 := Tryd.zeroValue50
  t51 := Tryd.underlying40
  a51 := Tryd.isAgg40
  z51 := Tryd.sizeOf40
  v51 := Tryd.zeroValue40
  t141 := Tryd.underlying42
  a141 := Tryd.isAgg42
  z141 := Tryd.sizeOf42
  v141 := Tryd.zeroValue42
  t193 := Tryd.underlying46
  a193 := Tryd.isAgg46
  z193 := Tryd.sizeOf46
  v193 := Tryd.zeroValue46
  t194 := Tryd.underlying47
  a194 := Tryd.isAgg47
  z194 := Tryd.sizeOf47
  v194 := Tryd.zeroValue47
  t196 := Tryd.underlying49
  a196 := Tryd.isAgg49
  z196 := Tryd.sizeOf49
  v196 := Tryd.zeroValue49
  t198 := Tryd.underlying52
  a198 := Tryd.isAgg52
  z198 := Tryd.sizeOf52
  v198 := Tryd.zeroValue52
  t201 := Tryd.underlying55
  a201 := Tryd.isAgg55
  z201 := Tryd.sizeOf55
  v201 := Tryd.zeroValue55
  t226 := Tryd.underlying60
  a226 := Tryd.isAgg60
  z226 := Tryd.sizeOf60
  v226 := Tryd.zeroValue60
  t227 := Tryd.underlying61
  a227 := Tryd.isAgg61
  z227 := Tryd.sizeOf61
  v227 := Tryd.zeroValue61
  g6 := by kernel_rfl }
open Go.RowKit Go.Lib in
theorem Tryd.unicode_IsSpace (r : Int) (w : World) (h0 : 0 ≤ r) (h : r ≤ 255) :
    Calls Tryd.prog 18 #[.int .i32 r] w fun e w' => e = .returned (.bool (Lib.isSpaceL r)) ∧ w' = w := Any.unicode_IsSpace Tryd.lays199 r w h0 h
def Tryd.lays201_ren : Go.Shelf.Ren := ⟨fun | 201 => 12 | 261 => 16 | 311 => 20 | 312 => 21 | n => n, fun | 21 => 21 | 4 => 4 | 51 => 40 | 5 => 5 | 119 => 35 | 0 => 0 | 141 => 42 | 196 => 49 | 193 => 46 | 3 => 3 | 198 => 52 | 49 => 50 | 194 => 47 | 201 => 55 | 226 => 60 | 46 => 39 | 227 => 61 | n => n, fun | 7 => 2 | 9 => 4 | n => n⟩
theorem Tryd.lays201 : Go.Proofs.Lays.n201 Tryd.prog Tryd.lays201_ren := {
  mixed := by kernel_rfl
  f201 := Tryd.func12.trans (congrArg some (by kernel_rfl))
  f261 := Tryd.func16.trans (congrArg some (by kernel_rfl))
  f311 := Tryd.func20.trans (congrArg some (by kernel_rfl))
  f312 := Tryd.func21.trans (congrArg some (by kernel_rfl))
  t0 := Tryd.underlying0
  a0 := Tryd.isAgg0
  z0 := Tryd.sizeOf0
  v0 := Tryd.zeroValue0
  t3 := Tryd.underlying3
  a3 := Tryd.isAgg3
  z3 := Tryd.sizeOf3
  v3 := Tryd.zeroValue3
  t4 := Tryd.underlying4
  a4 := Tryd.isAgg4
  z4 := Tryd.sizeOf4
  v4 := Tryd.zeroValue4
  t5 := Tryd.underlying5
  a5 := Tryd.isAgg5
  z5 := Tryd.sizeOf5
  v5 := Tryd.zeroValue5
  t21 := Tryd.underlying21
  a21 := Tryd.isAgg21
  z21 := Tryd.sizeOf21
  v21 := Tryd.zeroValue21
  t46 := Tryd.underlying39
  a46 := Tryd.isAgg39
  z46 := Tryd.sizeOf39
  v46 := Tryd.zeroValue39
  t49 := Tryd.underlying50
  a49 := Tryd.isAgg50
  z49 := Tryd.sizeOf50
  v49 := Tryd.zeroValue50
  t51 := Tryd.underlying40
  a51 := Tryd.isAgg40
  z51 := Tryd.sizeOf40
  v51 := Tryd.zeroValue40
  t119 := Tryd.underlying35
  a119 := Tryd.isAgg35
  z119 := Tryd.sizeOf35
  t141 := Tryd.underlying42
  a141 := Tryd.isAgg42
  z141 := Tryd.sizeOf42
  v141 := Tryd.zeroValue42
  t193 := Tryd.underlying46
  a193 := Tryd.isAgg46
  z193 := Tryd.sizeOf46
  v193 := Tryd.zeroValue46
  t194 := Tryd.underlying47
  a194 := Tryd.isAgg47
  z194 := Tryd.sizeOf47
  v194 := Tryd.zeroValue47
  t196 := Tryd.underlying49
  a196 := Tryd.isAgg49
  z196 := Tryd.sizeOf49
  v196 := Tryd.zeroValue49
  t198 := Tryd.underlying52
  a198 := Tryd.isAgg52
  z198 := Tryd.sizeOf52
  v198 := Tryd.zeroValue52
  t201 := Tryd.underlying55
  a201 := Tryd.isAgg55
  z201 := Tryd.sizeOf55
  v201 := Tryd.zeroValue55
  t226 := Tryd.underlying60
  a226 := Tryd.isAgg60
  z226 := Tryd.sizeOf60
  v226 := Tryd.zeroValue60
  t227 := Tryd.underlying61
  a227 := Tryd.isAgg61
  z227 := Tryd.sizeOf61
  v227 := Tryd.zeroValue61
  g7 := by kernel_rfl
  g9 := by kernel_rfl }
open Go.RowKit Go.Lib in
theorem Tryd.unicode_IsUpper (c : Nat) (w : World) (hc : c < 256) (htab : Lib.TabIs Tryd.prog w "unicode.properties" .u8 Lib.propertiesTab) :
    Calls Tryd.prog 12 #[.int .i32 c] w fun e w' => e = .returned (.bool (Lib.isUpperL c)) ∧ w' = w := Any.unicode_IsUpper Tryd.lays201 (by kernel_rfl) c w hc htab
def Tryd.lays202_ren : Go.Shelf.Ren := ⟨fun | 202 => 11 | 261 => 16 | 311 => 20 | 312 => 21 | n => n, fun | 21 => 21 | 4 => 4 | 51 => 40 | 5 => 5 | 119 => 35 | 0 => 0 | 141 => 42 | 196 => 49 | 193 => 46 | 3 => 3 | 198 => 52 | 49 => 50 | 194 => 47 | 201 => 55 | 226 => 60 | 46 => 39 | 227 => 61 | n => n, fun | 7 => 2 | 10 => 3 | n => n⟩
theorem Tryd.lays202 : Go.Proofs.Lays.n202 Tryd.prog Tryd.lays202_ren := {
  mixed := by kernel_rfl
  f202 := Tryd.func11.trans (congrArg some (by kernel_rfl))
  f261 := Tryd.func16.trans (congrArg some (by kernel_rfl))
  f311 := Tryd.func20.trans (congrArg some (by kernel_rfl))
  f312 := Tryd.func21.trans (congrArg some (by kernel_rfl))
  t0 := Tryd.underlying0
  a0 := Tryd.isAgg0
  z0 := Tryd.sizeOf0
  v0 := Tryd.zeroValue0
  t3 := Tryd.underlying3
  a3 := Tryd.isAgg3
  z3 := Tryd.sizeOf3
  v3 := Tryd.zeroValue3
  t4 := Tryd.underlying4
  a4 := Tryd.isAgg4
  z4 := Tryd.sizeOf4
  v4 := Tryd.zeroValue4
  t5 := Tryd.underlying5
  a5 := Tryd.isAgg5
  z5 := Tryd.sizeOf5
  v5 := Tryd.zeroValue5
  t21 := Tryd.underlying21
  a21 := Tryd.isAgg21
  z21 := Tryd.sizeOf21
  v21 := Tryd.zeroValue21
  t46 := Tryd.underlying39
  a46 := Tryd.isAgg39
  z46 := Tryd.sizeOf39
  v46 := Tryd.zeroValue39
  t49 := Tryd.underlying50
  a49 := Tryd.isAgg50
  z49 := Tryd.sizeOf50
  v49 := Tryd.zeroValue50
  t51 := Tryd.underlying40
  a51 := Tryd.isAgg40
  z51 := Tryd.sizeOf40
  v51 := Tryd.zeroValue40
  t119 := Tryd.underlying35
  a119 := Tryd.isAgg35
  z119 := Tryd.sizeOf35
  t141 := Tryd.underlying42
  a141 := Tryd.isAgg42
  z141 := Tryd.sizeOf42
  v141 := Tryd.zeroValue42
  t193 := Tryd.underlying46
  a193 := Tryd.isAgg46
  z193 := Tryd.sizeOf46
  v193 := Tryd.zeroValue46
  t194 := Tryd.underlying47
  a194 := Tryd.isAgg47
  z194 := Tryd.sizeOf47
  v194 := Tryd.zeroValue47
  t196 := Tryd.underlying49
  a196 := Tryd.isAgg49
  z196 := Tryd.sizeOf49
  v196 := Tryd.zeroValue49
  t198 := Tryd.underlying52
  a198 := Tryd.isAgg52
  z198 := Tryd.sizeOf52
  v198 := Tryd.zeroValue52
  t201 := Tryd.underlying55
  a201 := Tryd.isAgg55
  z201 := Tryd.sizeOf55
  v201 := Tryd.zeroValue55
  t226 := Tryd.underlying60
  a226 := Tryd.isAgg60
  z226 := Tryd.sizeOf60
  v226 := Tryd.zeroValue60
  t227 := Tryd.underlying61
  a227 := Tryd.isAgg61
  z227 := Tryd.sizeOf61
  v227 := Tryd.zeroValue61
  g7 := by kernel_rfl
  g10 := by kernel_rfl }
open Go.RowKit Go.Lib in
theorem Tryd.unicode_IsLower (c : Nat) (w : World) (hc : c < 256) (htab : Lib.TabIs Tryd.prog w "unicode.properties" .u8 Lib.propertiesTab) :
    Calls Tryd.prog 11 #[.int .i32 c] w fun e w' => e = .returned (.bool (Lib.isLowerL c)) ∧ w' = w := Any.unicode_IsLower Tryd.lays202 (by kernel_rfl) c w hc htab
def Tryd.laysM201_ren : Go.Shelf.Ren := ⟨fun | 201 => 12 | 261 => 16 | 311 => 20 | 312 => 21 | n => n, fun | 21 => 21 | 4 => 4 | 51 => 40 | 5 => 5 | 119 => 35 | 0 => 0 | 141 => 42 | 196 => 49 | 193 => 46 | 3 => 3 | 198 => 52 | 49 => 50 | 194 => 47 | 201 => 55 | 226 => 60 | 46 => 39 | 227 => 61 | n => n, fun | 7 => 2 | 9 => 4 | n => n⟩
theorem Tryd.laysM201 : Go.Proofs.LaysM.n201 Tryd.prog Tryd.laysM201_ren := {
  mixed := by kernel_rfl
  f201 := Tryd.func12.trans (congrArg some (by kernel_rfl))
  f261 := Tryd.func16.trans (congrArg some (by kernel_rfl))
  f311 := Tryd.func20.trans (congrArg some (by kernel_rfl))
  f312 := Tryd.func21.trans (congrArg some (by kernel_rfl))
  t0 := Tryd.underlying0
  a0 := Tryd.isAgg0
  z0 := Tryd.sizeOf0
  v0 := Tryd.zeroValue0
  t3 := Tryd.underlying3
  a3 := Tryd.isAgg3
  z3 := Tryd.sizeOf3
  v3 := Tryd.zeroValue3
  t4 := Tryd.underlying4
  a4 := Tryd.isAgg4
  z4 := Tryd.sizeOf4
  v4 := Tryd.zeroValue4
  t5 := Tryd.underlying5
  a5 := Tryd.isAgg5
  z5 := Tryd.sizeOf5
  v5 := Tryd.zeroValue5
  t21 := Tryd.underlying21
  a21 := Tryd.isAgg21
  z21 := Tryd.sizeOf21
  v21 := Tryd.zeroValue21
  t46 := Tryd.underlying39
  a46 := Tryd.isAgg39
  z46 := Tryd.sizeOf39
  v46 := Tryd.zeroValue39
  t49 := Tryd.underlying50
  a49 := Tryd.isAgg50
  z49 := Tryd.sizeOf50
  v49 := Tryd.zeroValue50
  t51 := Tryd.underlying40
  a51 := Tryd.isAgg40
  z51 := Tryd.sizeOf40
  v51 := Tryd.zeroValue40
  t119 := Tryd.underlying35
  a119 := Tryd.isAgg35
  z119 := Tryd.sizeOf35
  t141 := Tryd.underlying42
  a141 := Tryd.isAgg42
  z141 := Tryd.sizeOf42
  v141 := Tryd.zeroValue42
  t193 := Tryd.underlying46
  a193 := Tryd.isAgg46
  z193 := Tryd.sizeOf46
  v193 := Tryd.zeroValue46
  t194 := Tryd.underlying47
  a194 := Tryd.isAgg47
  z194 := Tryd.sizeOf47
  v194 := Tryd.zeroValue47
  t196 := Tryd.underlying49
  a196 := Tryd.isAgg49
  z196 := Tryd.sizeOf49
  v196 := Tryd.zeroValue49
  t198 := Tryd.underlying52
  a198 := Tryd.isAgg52
  z198 := Tryd.sizeOf52
  v198 := Tryd.zeroValue52
  t201 := Tryd.underlying55
  a201 := Tryd.isAgg55
  z201 := Tryd.sizeOf55
  v201 := Tryd.zeroValue55
  t226 := Tryd.underlying60
  a226 := Tryd.isAgg60
  z226 := Tryd.sizeOf60
  v226 := Tryd.zeroValue60
  t227 := Tryd.underlying61
  a227 := Tryd.isAgg61
  z227 := Tryd.sizeOf61
  v227 := Tryd.zeroValue61
  g7 := by kernel_rfl
  g9 := by kernel_rfl
  i0 := by kernel_rfl
  i3 := by kernel_rfl
  i4 := by kernel_rfl
  i5 := by kernel_rfl
  i21 := by kernel_rfl
  i46 := by kernel_rfl
  i49 := by kernel_rfl
  i51 := by kernel_rfl
  i141 := by kernel_rfl
  i193 := by kernel_rfl
  i194 := by kernel_rfl
  i196 := by kernel_rfl
  i198 := by kernel_rfl
  i201 := by kernel_rfl
  i226 := by kernel_rfl
  i227 := by kernel_rfl
  m7 := by kernel_rfl
  m9 := by kernel_rfl }
open Go.RowKit Go.Lib in
theorem Tryd.unicode_IsUpper_laid (c : Nat) (w : World) (hc : c < 256) (htab : Lib.TabIs Tryd.prog w "unicode.properties" .u8 Lib.propertiesTab) :
    Calls Tryd.prog 12 #[.int .i32 c] w fun e w' => e = .returned (.bool (Lib.isUpperL c)) ∧ w' = w := Any.unicode_IsUpper_laid Tryd.laysM201 c w hc htab
def Tryd.laysM202_ren : Go.Shelf.Ren := ⟨fun | 202 => 11 | 261 => 16 | 311 => 20 | 312 => 21 | n => n, fun | 21 => 21 | 4 => 4 | 51 => 40 | 5 => 5 | 119 => 35 | 0 => 0 | 141 => 42 | 196 => 49 | 193 => 46 | 3 => 3 | 198 => 52 | 49 => 50 | 194 => 47 | 201 => 55 | 226 => 60 | 46 => 39 | 227 => 61 | n => n, fun | 7 => 2 | 10 => 3 | n => n⟩
theorem Tryd.laysM202 : Go.Proofs.LaysM.n202 Tryd.prog Tryd.laysM202_ren := {
  mixed := by kernel_rfl
  f202 := Tryd.func11.trans (congrArg some (by kernel_rfl))
  f261 := Tryd.func16.trans (congrArg some (by kernel_rfl))
  f311 := Tryd.func20.trans (congrArg some (by kernel_rfl))
  f312 := Tryd.func21.trans (congrArg some (by kernel_rfl))
  t0 := Tryd.underlying0
  a0 := Tryd.isAgg0
  z0 := Tryd.sizeOf0
  v0 := Tryd.zeroValue0
  t3 := Tryd.underlying3
  a3 := Tryd.isAgg3
  z3 := Tryd.sizeOf3
  v3 := Tryd.zeroValue3
  t4 := Tryd.underlying4
  a4 := Tryd.isAgg4
  z4 := Tryd.sizeOf4
  v4 := Tryd.zeroValue4
  t5 := Tryd.underlying5
  a5 := Tryd.isAgg5
  z5 := Tryd.sizeOf5
  v5 := Tryd.zeroValue5
  t21 := Tryd.underlying21
  a21 := Tryd.isAgg21
  z21 := Tryd.sizeOf21
  v21 := Tryd.zeroValue21
  t46 := Tryd.underlying39
  a46 := Tryd.isAgg39
  z46 := Tryd.sizeOf39
  v46 := Tryd.zeroValue39
  t49 := Tryd.underlying50
  a49 := Tryd.isAgg50
  z49 := Tryd.sizeOf50
  v49 := Tryd.zeroValue50
  t51 := Tryd.underlying40
  a51 := Tryd.isAgg40
  z51 := Tryd.sizeOf40
  v51 := Tryd.zeroValue40
  t119 := Tryd.underlying35
  a119 := Tryd.isAgg35
  z119 := Tryd.sizeOf35
  t141 := Tryd.underlying42
  a141 := Tryd.isAgg42
  z141 := Tryd.sizeOf42
  v141 := Tryd.zeroValue42
  t193 := Tryd.underlying46
  a193 := Tryd.isAgg46
  z193 := Tryd.sizeOf46
  v193 := Tryd.zeroValue46
  t194 := Tryd.underlying47
  a194 := Tryd.isAgg47
  z194 := Tryd.sizeOf47
  v194 := Tryd.zeroValue47
  t196 := Tryd.underlying49
  a196 := Tryd.isAgg49
  z196 := Tryd.sizeOf49
  v196 := Tryd.zeroValue49
  t198 := Tryd.underlying52
  a198 := Tryd.isAgg52
  z198 := Tryd.sizeOf52
  v198 := Tryd.zeroValue52
  t201 := Tryd.underlying55
  a201 := Tryd.isAgg55
  z201 := Tryd.sizeOf55
  v201 := Tryd.zeroValue55
  t226 := Tryd.underlying60
  a226 := Tryd.isAgg60
  z226 := Tryd.sizeOf60
  v226 := Tryd.zeroValue60
  t227 := Tryd.underlying61
  a227 := Tryd.isAgg61
  z227 := Tryd.sizeOf61
  v227 := Tryd.zeroValue61
  g7 := by kernel_rfl
  g10 := by kernel_rfl
  i0 := by kernel_rfl
  i3 := by kernel_rfl
  i4 := by kernel_rfl
  i5 := by kernel_rfl
  i21 := by kernel_rfl
  i46 := by kernel_rfl
  i49 := by kernel_rfl
  i51 := by kernel_rfl
  i141 := by kernel_rfl
  i193 := by kernel_rfl
  i194 := by kernel_rfl
  i196 := by kernel_rfl
  i198 := by kernel_rfl
  i201 := by kernel_rfl
  i226 := by kernel_rfl
  i227 := by kernel_rfl
  m7 := by kernel_rfl
  m10 := by kernel_rfl }
open Go.RowKit Go.Lib in
theorem Tryd.unicode_IsLower_laid (c : Nat) (w : World) (hc : c < 256) (htab : Lib.TabIs Tryd.prog w "unicode.properties" .u8 Lib.propertiesTab) :
    Calls Tryd.prog 11 #[.int .i32 c] w fun e w' => e = .returned (.bool (Lib.isLowerL c)) ∧ w' = w := Any.unicode_IsLower_laid Tryd.laysM202 c w hc htab
def Tryd.lays197_ren : Go.Shelf.Ren := ⟨fun | 197 => 24 | 260 => 27 | n => n, fun | 9 => 9 | 21 => 21 | 3 => 3 | 4 => 4 | 5 => 5 | 105 => 58 | 119 => 35 | 0 => 0 | 46 => 39 | 139 => 38 | 138 => 37 | n => n, fun | 3 => 0 | 4 => 1 | n => n⟩
theorem Tryd.lays197 : Go.Proofs.Lays.n197 Tryd.prog Tryd.lays197_ren := {
  mixed := by kernel_rfl
  f197 := Tryd.func24.trans (congrArg some (by kernel_rfl))
  f260 := Tryd.func27.trans (congrArg some (by kernel_rfl))
  t0 := Tryd.underlying0
  a0 := Tryd.isAgg0
  z0 := Tryd.sizeOf0
  v0 := Tryd.zeroValue0
  t3 := Tryd.underlying3
  a3 := Tryd.isAgg3
  z3 := Tryd.sizeOf3
  v3 := Tryd.zeroValue3
  t4 := Tryd.underlying4
  a4 := Tryd.isAgg4
  z4 := Tryd.sizeOf4
  v4 := Tryd.zeroValue4
  t5 := Tryd.underlying5
  a5 := Tryd.isAgg5
  z5 := Tryd.sizeOf5
  v5 := Tryd.zeroValue5
  t9 := Tryd.underlying9
  a9 := Tryd.isAgg9
  z9 := Tryd.sizeOf9
  v9 := Tryd.zeroValue9
  t21 := Tryd.underlying21
  a21 := Tryd.isAgg21
  z21 := Tryd.sizeOf21
  v21 := Tryd.zeroValue21
  t46 := Tryd.underlying39
  a46 := Tryd.isAgg39
  z46 := Tryd.sizeOf39
  v46 := Tryd.zeroValue39
  t105 := Tryd.underlying58
  a105 := Tryd.isAgg58
  z105 := Tryd.sizeOf58
  v105 := Tryd.zeroValue58
  t119 := Tryd.underlying35
  a119 := Tryd.isAgg35
  z119 := Tryd.sizeOf35
  t138 := Tryd.underlying37
  a138 := Tryd.isAgg37
  z138 := Tryd.sizeOf37
  v138 := Tryd.zeroValue37
  t139 := Tryd.underlying38
  a139 := Tryd.isAgg38
  z139 := Tryd.sizeOf38
  v139 := Tryd.zeroValue38
  g3 := by kernel_rfl
  g4 := by kernel_rfl }
open Go.RowKit Go.Lib in
/-- unicode/utf8.DecodeRuneInString: "DecodeRuneInString is like DecodeRune but its input is a string.": ("DecodeRune unpacks the first UTF-8 encoding in p and returns the rune and its width in bytes."): WHERE s BEGINS WITH AN ASCII BYTE x: (x, 1). (LAID: no walk: one application.) -/
theorem Tryd.utf8_DecodeRuneInString_ascii (s : ByteArray) (x : UInt8) (w : World) (h0 : s.data.toList[0]? = some x) (hx : x.toNat < 128) :
    Calls Tryd.prog 24 #[.string s] w fun e w' => e = .returned (.tuple #[.int .i32 x.toNat, .int .i64 1]) ∧ w' = w := Any.utf8_DecodeRuneInString_ascii Tryd.lays197 s x w h0 hx
def Tryd.lays260_ren : Go.Shelf.Ren := ⟨fun | 260 => 27 | n => n, fun | 9 => 9 | 21 => 21 | 3 => 3 | 4 => 4 | 5 => 5 | 119 => 35 | 0 => 0 | 46 => 39 | 139 => 38 | 138 => 37 | n => n, fun | 3 => 0 | 4 => 1 | n => n⟩
theorem Tryd.lays260 : Go.Proofs.Lays.n260 Tryd.prog Tryd.lays260_ren := {
  mixed := by kernel_rfl
  f260 := Tryd.func27.trans (congrArg some (by kernel_rfl))
  t0 := Tryd.underlying0
  a0 := Tryd.isAgg0
  z0 := Tryd.sizeOf0
  v0 := Tryd.zeroValue0
  t3 := Tryd.underlying3
  a3 := Tryd.isAgg3
  z3 := Tryd.sizeOf3
  v3 := Tryd.zeroValue3
  t4 := Tryd.underlying4
  a4 := Tryd.isAgg4
  z4 := Tryd.sizeOf4
  v4 := Tryd.zeroValue4
  t5 := Tryd.underlying5
  a5 := Tryd.isAgg5
  z5 := Tryd.sizeOf5
  v5 := Tryd.zeroValue5
  t9 := Tryd.underlying9
  a9 := Tryd.isAgg9
  z9 := Tryd.sizeOf9
  v9 := Tryd.zeroValue9
  t21 := Tryd.underlying21
  a21 := Tryd.isAgg21
  z21 := Tryd.sizeOf21
  v21 := Tryd.zeroValue21
  t46 := Tryd.underlying39
  a46 := Tryd.isAgg39
  z46 := Tryd.sizeOf39
  v46 := Tryd.zeroValue39
  t119 := Tryd.underlying35
  a119 := Tryd.isAgg35
  z119 := Tryd.sizeOf35
  t138 := Tryd.underlying37
  a138 := Tryd.isAgg37
  z138 := Tryd.sizeOf37
  v138 := Tryd.zeroValue37
  t139 := Tryd.underlying38
  a139 := Tryd.isAgg38
  z139 := Tryd.sizeOf38
  v139 := Tryd.zeroValue38
  g3 := by kernel_rfl
  g4 := by kernel_rfl }
open Go.RowKit Go.Lib in
theorem Tryd.utf8_decodeRuneInStringSlow (s : ByteArray) (w : World) (hT : Lib.Utf8Tabs 0 1 w) :
    Calls Tryd.prog 27 #[.string s] w fun e w' => e = .returned (.tuple #[.int .i32 (Lib.decodeGo s).1, .int .i64 (Lib.decodeGo s).2]) ∧ Below w.heap.size w w' := Any.utf8_decodeRuneInStringSlow Tryd.lays260 s w hT
open Go.RowKit Go.Lib in
/-- **unicode/utf8.DecodeRuneInString AT EVERY STRING.** (LAID: no walk: one application.) -/
theorem Tryd.utf8_DecodeRuneInString (s : ByteArray) (w : World) (hT : Lib.Utf8Tabs 0 1 w) :
    Calls Tryd.prog 24 #[.string s] w fun e w' => e = .returned (.tuple #[.int .i32 (Lib.decodeGo s).1, .int .i64 (Lib.decodeGo s).2]) ∧ Below w.heap.size w w' := Any.utf8_DecodeRuneInString Tryd.lays197 s w hT
def Tryd.lays311_ren : Go.Shelf.Ren := ⟨fun | 311 => 20 | n => n, fun | 193 => 46 | 49 => 50 | 4 => 4 | 3 => 3 | 0 => 0 | 226 => 60 | 198 => 52 | 46 => 39 | n => n, fun | n => n⟩
theorem Tryd.lays311 : Go.Proofs.Lays.n311 Tryd.prog Tryd.lays311_ren := {
  mixed := by kernel_rfl
  f311 := Tryd.func20.trans (congrArg some (by kernel_rfl))
  t0 := Tryd.underlying0
  a0 := Tryd.isAgg0
  z0 := Tryd.sizeOf0
  v0 := Tryd.zeroValue0
  t3 := Tryd.underlying3
  a3 := Tryd.isAgg3
  z3 := Tryd.sizeOf3
  v3 := Tryd.zeroValue3
  t4 := Tryd.underlying4
  a4 := Tryd.isAgg4
  z4 := Tryd.sizeOf4
  v4 := Tryd.zeroValue4
  t46 := Tryd.underlying39
  a46 := Tryd.isAgg39
  z46 := Tryd.sizeOf39
  v46 := Tryd.zeroValue39
  t49 := Tryd.underlying50
  a49 := Tryd.isAgg50
  z49 := Tryd.sizeOf50
  v49 := Tryd.zeroValue50
  t193 := Tryd.underlying46
  a193 := Tryd.isAgg46
  z193 := Tryd.sizeOf46
  v193 := Tryd.zeroValue46
  t198 := Tryd.underlying52
  a198 := Tryd.isAgg52
  z198 := Tryd.sizeOf52
  v198 := Tryd.zeroValue52
  t226 := Tryd.underlying60
  a226 := Tryd.isAgg60
  z226 := Tryd.sizeOf60
  v226 := Tryd.zeroValue60 }
open Go.RowKit Go.Lib in
theorem Tryd.unicode_is16_white (R oR : Nat) (z : Nat) (w : World) (hz : z < 65536) (hz0 : 255 < z) (c6 : w.cell? ⟨R, oR + 6, none⟩ = some (.int .u16 160)) (c7 : w.cell? ⟨R, oR + 7, none⟩ = some (.int .u16 5760)) (c8 : w.cell? ⟨R, oR + 8, none⟩ = some (.int .u16 5600)) (c9 : w.cell? ⟨R, oR + 9, none⟩ = some (.int .u16 8192)) (c10 : w.cell? ⟨R, oR + 10, none⟩ = some (.int .u16 8202)) (c11 : w.cell? ⟨R, oR + 11, none⟩ = some (.int .u16 1)) (c12 : w.cell? ⟨R, oR + 12, none⟩ = some (.int .u16 8232)) (c13 : w.cell? ⟨R, oR + 13, none⟩ = some (.int .u16 8233)) (c14 : w.cell? ⟨R, oR + 14, none⟩ = some (.int .u16 1)) (c15 : w.cell? ⟨R, oR + 15, none⟩ = some (.int .u16 8239)) (c16 : w.cell? ⟨R, oR + 16, none⟩ = some (.int .u16 8287)) (c17 : w.cell? ⟨R, oR + 17, none⟩ = some (.int .u16 48)) (c18 : w.cell? ⟨R, oR + 18, none⟩ = some (.int .u16 12288)) (c19 : w.cell? ⟨R, oR + 19, none⟩ = some (.int .u16 12288)) (c20 : w.cell? ⟨R, oR + 20, none⟩ = some (.int .u16 1)) :
    Calls Tryd.prog 20 #[.slice (some ⟨R, oR + 6, none⟩) 5 5, .int .u16 z] w fun e w' => e = .returned (.bool (Lib.isSpaceR z)) ∧ Below w.heap.size w w' := Any.unicode_is16_white Tryd.lays311 R oR z w hz hz0 c6 c7 c8 c9 c10 c11 c12 c13 c14 c15 c16 c17 c18 c19 c20
def Tryd.lays261_ren : Go.Shelf.Ren := ⟨fun | 261 => 16 | 311 => 20 | 312 => 21 | n => n, fun | 141 => 42 | 21 => 21 | 4 => 4 | 0 => 0 | 196 => 49 | 193 => 46 | 3 => 3 | 51 => 40 | 198 => 52 | 49 => 50 | 194 => 47 | 201 => 55 | 226 => 60 | 46 => 39 | 227 => 61 | n => n, fun | n => n⟩
theorem Tryd.lays261 : Go.Proofs.Lays.n261 Tryd.prog Tryd.lays261_ren := {
  mixed := by kernel_rfl
  f261 := Tryd.func16.trans (congrArg some (by kernel_rfl))
  f311 := Tryd.func20.trans (congrArg some (by kernel_rfl))
  f312 := Tryd.func21.trans (congrArg some (by kernel_rfl))
  t0 := Tryd.underlying0
  a0 := Tryd.isAgg0
  z0 := Tryd.sizeOf0
  v0 := Tryd.zeroValue0
  t3 := Tryd.underlying3
  a3 := Tryd.isAgg3
  z3 := Tryd.sizeOf3
  v3 := Tryd.zeroValue3
  t4 := Tryd.underlying4
  a4 := Tryd.isAgg4
  z4 := Tryd.sizeOf4
  v4 := Tryd.zeroValue4
  t21 := Tryd.underlying21
  a21 := Tryd.isAgg21
  z21 := Tryd.sizeOf21
  v21 := Tryd.zeroValue21
  t46 := Tryd.underlying39
  a46 := Tryd.isAgg39
  z46 := Tryd.sizeOf39
  v46 := Tryd.zeroValue39
  t49 := Tryd.underlying50
  a49 := Tryd.isAgg50
  z49 := Tryd.sizeOf50
  v49 := Tryd.zeroValue50
  t51 := Tryd.underlying40
  a51 := Tryd.isAgg40
  z51 := Tryd.sizeOf40
  v51 := Tryd.zeroValue40
  t141 := Tryd.underlying42
  a141 := Tryd.isAgg42
  z141 := Tryd.sizeOf42
  v141 := Tryd.zeroValue42
  t193 := Tryd.underlying46
  a193 := Tryd.isAgg46
  z193 := Tryd.sizeOf46
  v193 := Tryd.zeroValue46
  t194 := Tryd.underlying47
  a194 := Tryd.isAgg47
  z194 := Tryd.sizeOf47
  v194 := Tryd.zeroValue47
  t196 := Tryd.underlying49
  a196 := Tryd.isAgg49
  z196 := Tryd.sizeOf49
  v196 := Tryd.zeroValue49
  t198 := Tryd.underlying52
  a198 := Tryd.isAgg52
  z198 := Tryd.sizeOf52
  v198 := Tryd.zeroValue52
  t201 := Tryd.underlying55
  a201 := Tryd.isAgg55
  z201 := Tryd.sizeOf55
  v201 := Tryd.zeroValue55
  t226 := Tryd.underlying60
  a226 := Tryd.isAgg60
  z226 := Tryd.sizeOf60
  v226 := Tryd.zeroValue60
  t227 := Tryd.underlying61
  a227 := Tryd.isAgg61
  z227 := Tryd.sizeOf61
  v227 := Tryd.zeroValue61 }
open Go.RowKit Go.Lib in
/-- unicode.isExcludingLatin(White_Space, r), r beyond U+00FF or negative. (LAID: no walk: one application.) -/
theorem Tryd.unicode_isExcludingLatin_white (T oT R oR : Nat) (r : Int) (w : World) (hlo : -2147483648 ≤ r) (hhi : r ≤ 2147483647) (hr : r < 0 ∨ 255 < r) (h2 : w.cell? ⟨T, oT, none⟩ = some (.slice (some ⟨R, oR, none⟩) 7 7)) (h3 : w.cell? ⟨T, oT + 1, none⟩ = some (.slice none 0 0)) (h4 : w.cell? ⟨T, oT + 2, none⟩ = some (.int .i64 2)) (h5 : ∀ i, i < 21 → w.cell? ⟨R, oR + i, none⟩ = some (.int .u16 (whiteT.getD i 0))) :
    Calls Tryd.prog 16 #[.pointer (some ⟨T, oT, none⟩), .int .i32 r] w fun e w' => e = .returned (.bool (Lib.isSpaceZ r)) ∧ Below w.heap.size w w' := Any.unicode_isExcludingLatin_white Tryd.lays261 T oT R oR r w hlo hhi hr h2 h3 h4 h5
open Go.RowKit Go.Lib in
/-- **unicode.IsSpace AT EVERY int32.** (LAID: no walk: one application.) -/
theorem Tryd.unicode_IsSpace_any (r : Int) (w : World) (hlo : -2147483648 ≤ r) (hhi : r ≤ 2147483647) (hW : Lib.WhiteTab 7 w) :
    Calls Tryd.prog 18 #[.int .i32 r] w fun e w' => e = .returned (.bool (Lib.isSpaceZ r)) ∧ Below w.heap.size w w' := Any.unicode_IsSpace_any Tryd.lays199 r w hlo hhi hW
def Tryd.lays271_ren : Go.Shelf.Ren := ⟨fun | 271 => 26 | 120 => 28 | 197 => 24 | 260 => 27 | n => n, fun | 9 => 9 | 21 => 21 | 3 => 3 | 4 => 4 | 5 => 5 | 105 => 58 | 119 => 35 | 0 => 0 | 46 => 39 | 139 => 38 | 138 => 37 | n => n, fun | 3 => 0 | 4 => 1 | n => n⟩
theorem Tryd.lays271 : Go.Proofs.Lays.n271 Tryd.prog Tryd.lays271_ren := {
  mixed := by kernel_rfl
  f120 := Tryd.func28.trans (congrArg some (by kernel_rfl))
  f197 := Tryd.func24.trans (congrArg some (by kernel_rfl))
  f260 := Tryd.func27.trans (congrArg some (by kernel_rfl))
  f271 := Tryd.func26.trans (congrArg some (by kernel_rfl))
  t0 := Tryd.underlying0
  a0 := Tryd.isAgg0
  z0 := Tryd.sizeOf0
  v0 := Tryd.zeroValue0
  t3 := Tryd.underlying3
  a3 := Tryd.isAgg3
  z3 := Tryd.sizeOf3
  v3 := Tryd.zeroValue3
  t4 := Tryd.underlying4
  a4 := Tryd.isAgg4
  z4 := Tryd.sizeOf4
  v4 := Tryd.zeroValue4
  t5 := Tryd.underlying5
  a5 := Tryd.isAgg5
  z5 := Tryd.sizeOf5
  v5 := Tryd.zeroValue5
  t9 := Tryd.underlying9
  a9 := Tryd.isAgg9
  z9 := Tryd.sizeOf9
  v9 := Tryd.zeroValue9
  t21 := Tryd.underlying21
  a21 := Tryd.isAgg21
  z21 := Tryd.sizeOf21
  v21 := Tryd.zeroValue21
  t46 := Tryd.underlying39
  a46 := Tryd.isAgg39
  z46 := Tryd.sizeOf39
  v46 := Tryd.zeroValue39
  t105 := Tryd.underlying58
  a105 := Tryd.isAgg58
  z105 := Tryd.sizeOf58
  v105 := Tryd.zeroValue58
  t119 := Tryd.underlying35
  a119 := Tryd.isAgg35
  z119 := Tryd.sizeOf35
  t138 := Tryd.underlying37
  a138 := Tryd.isAgg37
  z138 := Tryd.sizeOf37
  v138 := Tryd.zeroValue37
  t139 := Tryd.underlying38
  a139 := Tryd.isAgg38
  z139 := Tryd.sizeOf38
  v139 := Tryd.zeroValue38
  g3 := by kernel_rfl
  g4 := by kernel_rfl }
open Go.RowKit Go.Lib in
/-- **unicode/utf8.DecodeLastRuneInString AT EVERY STRING.** (LAID: no walk: one application.) -/
theorem Tryd.utf8_DecodeLastRuneInString (s : ByteArray) (w : World) (hs : s.size ≤ 9223372036854775807) (hT : Lib.Utf8Tabs 0 1 w) :
    Calls Tryd.prog 26 #[.string s] w fun e w' => e = .returned (.tuple #[.int .i32 (Lib.decodeLastL s.data.toList).1, .int .i64 (Lib.decodeLastL s.data.toList).2]) ∧ Below w.heap.size w w' := Any.utf8_DecodeLastRuneInString Tryd.lays271 s w hs hT
open Go.RowKit in
theorem Tryd.strings_TrimSpace_any (s : ByteArray) (w : World) (hs : s.size ≤ 9223372036854775807) (htab : Lib.TabIs Tryd.prog w "strings.asciiSpace" .u8 Lib.asciiSpaceTab) (hU8 : Lib.Utf8Tabs 0 1 w) (hWS : Lib.WhiteTab 7 w) :
    Calls Tryd.prog 14 #[.string s] w fun e w' => e = .returned (.string ⟨(Lib.trimSpaceD s.data.toList).toArray⟩) ∧ Below w.heap.size w w' := Any.strings_TrimSpace_any Tryd.lays163 Tryd.Space_Extra_163 s w hs htab hU8 hWS
open Go.RowKit Go.Lib in
theorem Tryd.unicode_is16_white_d (R oR : Nat) (z : Nat) (w : World) (hz : z < 65536) (hz0 : 255 < z) (c6 : w.cell? ⟨R, oR + 6, none⟩ = some (.int .u16 160)) (c7 : w.cell? ⟨R, oR + 7, none⟩ = some (.int .u16 5760)) (c8 : w.cell? ⟨R, oR + 8, none⟩ = some (.int .u16 5600)) (c9 : w.cell? ⟨R, oR + 9, none⟩ = some (.int .u16 8192)) (c10 : w.cell? ⟨R, oR + 10, none⟩ = some (.int .u16 8202)) (c11 : w.cell? ⟨R, oR + 11, none⟩ = some (.int .u16 1)) (c12 : w.cell? ⟨R, oR + 12, none⟩ = some (.int .u16 8232)) (c13 : w.cell? ⟨R, oR + 13, none⟩ = some (.int .u16 8233)) (c14 : w.cell? ⟨R, oR + 14, none⟩ = some (.int .u16 1)) (c15 : w.cell? ⟨R, oR + 15, none⟩ = some (.int .u16 8239)) (c16 : w.cell? ⟨R, oR + 16, none⟩ = some (.int .u16 8287)) (c17 : w.cell? ⟨R, oR + 17, none⟩ = some (.int .u16 48)) (c18 : w.cell? ⟨R, oR + 18, none⟩ = some (.int .u16 12288)) (c19 : w.cell? ⟨R, oR + 19, none⟩ = some (.int .u16 12288)) (c20 : w.cell? ⟨R, oR + 20, none⟩ = some (.int .u16 1)) :
    Calls Tryd.prog 20 #[.slice (some ⟨R, oR + 6, none⟩) 5 5, .int .u16 z] w fun e w' => e = .returned (.bool (Lib.isSpaceR z)) ∧ ∃ q, w' = w.drewN q := Any.unicode_is16_white_d Tryd.lays311 R oR z w hz hz0 c6 c7 c8 c9 c10 c11 c12 c13 c14 c15 c16 c17 c18 c19 c20
open Go.RowKit Go.Lib in
theorem Tryd.unicode_is16_any (T : Array Rg) (R oR cap : Nat) (z : Nat) (w : World) (hz : z < 65536) (hT : RgTab .u16 R oR T w) (hok : RgOk 65536 T) (hn : T.size ≤ 1000000000) :
    Calls Tryd.prog 20 #[.slice (some ⟨R, oR, none⟩) T.size cap, .int .u16 z] w fun e w' => e = .returned (.bool (is16Go T z)) ∧ ∃ q, w' = w.drewN q := Any.unicode_is16_any Tryd.lays311 T R oR cap z w hz hT hok hn
def Tryd.lays312_ren : Go.Shelf.Ren := ⟨fun | 312 => 21 | n => n, fun | 194 => 47 | 51 => 40 | 4 => 4 | 3 => 3 | 0 => 0 | 227 => 61 | 201 => 55 | 46 => 39 | n => n, fun | n => n⟩
theorem Tryd.lays312 : Go.Proofs.Lays.n312 Tryd.prog Tryd.lays312_ren := {
  mixed := by kernel_rfl
  f312 := Tryd.func21.trans (congrArg some (by kernel_rfl))
  t0 := Tryd.underlying0
  a0 := Tryd.isAgg0
  z0 := Tryd.sizeOf0
  v0 := Tryd.zeroValue0
  t3 := Tryd.underlying3
  a3 := Tryd.isAgg3
  z3 := Tryd.sizeOf3
  v3 := Tryd.zeroValue3
  t4 := Tryd.underlying4
  a4 := Tryd.isAgg4
  z4 := Tryd.sizeOf4
  v4 := Tryd.zeroValue4
  t46 := Tryd.underlying39
  a46 := Tryd.isAgg39
  z46 := Tryd.sizeOf39
  v46 := Tryd.zeroValue39
  t51 := Tryd.underlying40
  a51 := Tryd.isAgg40
  z51 := Tryd.sizeOf40
  v51 := Tryd.zeroValue40
  t194 := Tryd.underlying47
  a194 := Tryd.isAgg47
  z194 := Tryd.sizeOf47
  v194 := Tryd.zeroValue47
  t201 := Tryd.underlying55
  a201 := Tryd.isAgg55
  z201 := Tryd.sizeOf55
  v201 := Tryd.zeroValue55
  t227 := Tryd.underlying61
  a227 := Tryd.isAgg61
  z227 := Tryd.sizeOf61
  v227 := Tryd.zeroValue61 }
open Go.RowKit Go.Lib in
theorem Tryd.unicode_is32_any (T : Array Rg) (R oR cap : Nat) (z : Nat) (w : World) (hz : z < 4294967296) (hT : RgTab .u32 R oR T w) (hok : RgOk 4294967296 T) (hn : T.size ≤ 1000000000) :
    Calls Tryd.prog 21 #[.slice (some ⟨R, oR, none⟩) T.size cap, .int .u32 z] w fun e w' => e = .returned (.bool (is32Go T z)) ∧ Below w.heap.size w w' := Any.unicode_is32_any Tryd.lays312 T R oR cap z w hz hT hok hn
open Go.RowKit Go.Lib in
theorem Tryd.unicode_isExcludingLatin_any (Tb oT : Nat) (T : RTab) (r : Int) (w : World) (hlo : -2147483648 ≤ r) (hhi : r ≤ 2147483647) (hA : RTabAt Tb oT T w) (hok : RTabOk T) :
    Calls Tryd.prog 16 #[.pointer (some ⟨Tb, oT, none⟩), .int .i32 r] w fun e w' => e = .returned (.bool (exclGo T r)) ∧ Below w.heap.size w w' := Any.unicode_isExcludingLatin_any Tryd.lays261 Tb oT T r w hlo hhi hA hok
open Go.RowKit Go.Lib in
/-- unicode.IsUpper(r) AT EVERY int32, over whatever table the variable unicode.Upper leads to. (LAID: no walk: one application.) -/
theorem Tryd.unicode_IsUpper_any (T : RTab) (r : Int) (w : World) (hlo : -2147483648 ≤ r) (hhi : r ≤ 2147483647) (htab : Lib.TabIs Tryd.prog w "unicode.properties" .u8 Lib.propertiesTab) (hV : RVar 4 T w) (hok : RTabOk T) :
    Calls Tryd.prog 12 #[.int .i32 r] w fun e w' => e = .returned (.bool (if latin1 r then isUpperL r else exclGo T r)) ∧ Below w.heap.size w w' := Any.unicode_IsUpper_any Tryd.lays201 (by kernel_rfl) T r w hlo hhi htab hV hok
open Go.RowKit Go.Lib in
/-- unicode.IsLower(r) AT EVERY int32, over whatever table the variable unicode.Lower leads to. (LAID: no walk: one application.) -/
theorem Tryd.unicode_IsLower_any (T : RTab) (r : Int) (w : World) (hlo : -2147483648 ≤ r) (hhi : r ≤ 2147483647) (htab : Lib.TabIs Tryd.prog w "unicode.properties" .u8 Lib.propertiesTab) (hV : RVar 3 T w) (hok : RTabOk T) :
    Calls Tryd.prog 11 #[.int .i32 r] w fun e w' => e = .returned (.bool (if latin1 r then isLowerL r else exclGo T r)) ∧ Below w.heap.size w w' := Any.unicode_IsLower_any Tryd.lays202 (by kernel_rfl) T r w hlo hhi htab hV hok
open Go.RowKit Go.Lib in
/-- unicode.IsDigit(r) AT EVERY int32, over whatever table the variable unicode.Digit leads to. (LAID: no walk: one application.) -/
theorem Tryd.unicode_IsDigit_any (T : RTab) (r : Int) (w : World) (hlo : -2147483648 ≤ r) (hhi : r ≤ 2147483647) (hV : RVar 5 T w) (hok : RTabOk T) :
    Calls Tryd.prog 13 #[.int .i32 r] w fun e w' => e = .returned (.bool (if r ≤ 255 then isDigitL r else exclGo T r)) ∧ Below w.heap.size w w' := Any.unicode_IsDigit_any Tryd.lays198 T r w hlo hhi hV hok
def Tryd.lays196_ren : Go.Shelf.Ren := ⟨fun | 196 => 10 | 259 => 15 | n => n, fun | 9 => 9 | 4 => 4 | 3 => 3 | 5 => 5 | 12 => 12 | 119 => 35 | 0 => 0 | 46 => 39 | 139 => 38 | 138 => 37 | 53 => 45 | n => n, fun | 3 => 0 | 4 => 1 | n => n⟩
theorem Tryd.lays196 : Go.Proofs.Lays.n196 Tryd.prog Tryd.lays196_ren := {
  mixed := by kernel_rfl
  f196 := Tryd.func10.trans (congrArg some (by kernel_rfl))
  f259 := Tryd.func15.trans (congrArg some (by kernel_rfl))
  t0 := Tryd.underlying0
  a0 := Tryd.isAgg0
  z0 := Tryd.sizeOf0
  v0 := Tryd.zeroValue0
  t3 := Tryd.underlying3
  a3 := Tryd.isAgg3
  z3 := Tryd.sizeOf3
  v3 := Tryd.zeroValue3
  t4 := Tryd.underlying4
  a4 := Tryd.isAgg4
  z4 := Tryd.sizeOf4
  v4 := Tryd.zeroValue4
  t5 := Tryd.underlying5
  a5 := Tryd.isAgg5
  z5 := Tryd.sizeOf5
  v5 := Tryd.zeroValue5
  t9 := Tryd.underlying9
  a9 := Tryd.isAgg9
  z9 := Tryd.sizeOf9
  v9 := Tryd.zeroValue9
  t12 := Tryd.underlying12
  a12 := Tryd.isAgg12
  z12 := Tryd.sizeOf12
  v12 := Tryd.zeroValue12
  t46 := Tryd.underlying39
  a46 := Tryd.isAgg39
  z46 := Tryd.sizeOf39
  v46 := Tryd.zeroValue39
  t53 := Tryd.underlying45
  a53 := Tryd.isAgg45
  z53 := Tryd.sizeOf45
  v53 := Tryd.zeroValue45
  t119 := Tryd.underlying35
  a119 := Tryd.isAgg35
  z119 := Tryd.sizeOf35
  t138 := Tryd.underlying37
  a138 := Tryd.isAgg37
  z138 := Tryd.sizeOf37
  v138 := Tryd.zeroValue37
  t139 := Tryd.underlying38
  a139 := Tryd.isAgg38
  z139 := Tryd.sizeOf38
  v139 := Tryd.zeroValue38
  g3 := by kernel_rfl
  g4 := by kernel_rfl }
open Go.RowKit Go.Lib in
theorem Tryd.utf8_ValidString (s : ByteArray) (w : World) (hs : s.size ≤ 9223372036854775807) (hT : Lib.Utf8Tabs 0 1 w) :
    Calls Tryd.prog 10 #[.string s] w fun e w' => e = .returned (.bool (Lib.validD s.data.toList)) ∧ Below w.heap.size w w' := Any.utf8_ValidString Tryd.lays196 s w hs hT
end Go.Proofs
