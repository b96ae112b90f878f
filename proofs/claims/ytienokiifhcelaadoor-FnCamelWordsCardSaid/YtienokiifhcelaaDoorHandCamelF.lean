/- What tw.SplitCamelCase is said to compute on ASCII text; the tables that it reads. -/
import Derived.Test.YtienokiifhcelaaDoorShelf
import Derived.Test.YtienokiifhcelaaDoorHandRw
import Derived.Test.YtienokiifhcelaaDoorHandCamelLaw
import Derived.Lib.AppendIntMem
import Derived.Lib.LaidU8
import Derived.Lib.ValidLaws
namespace Go.Proofs.YtienokiifhcelaaDoor.Hand
open Go.RowKit Go.Proofs.YtienokiifhcelaaDoorW.PrintWords Go.Proofs.YtienokiifhcelaaDoor.Base
set_option linter.unusedVariables false
set_option linter.unusedSimpArgs false

/-- The listed tables hold what their initialisers lay, whatever is done at blocks that the call makes. -/
structure LaidW (w : World) : Prop where
  sp : Lib.TabBelow Tryd.prog w.heap.size w "strings.asciiSpace" .u8 Lib.asciiSpaceTab
  pr : Lib.TabBelow Tryd.prog w.heap.size w "unicode.properties" .u8 Lib.propertiesTab
  u8 : Lib.Utf8Tabs 0 1 w
theorem LaidW.on {w W : World} (h : LaidW w) (hb : Below w.heap.size w W) : LaidW W := ⟨fun w' h' => h.sp w' (hb.trans (h'.mono hb.size)), fun w' h' => h.pr w' (hb.trans (h'.mono hb.size)), Go.Proofs.Utf8Tabs_below h.u8 hb⟩
theorem tab256 {W : World} {l : List (String × DataW Unit)} (h : laidMet Tryd.prog l W) {n : String} {g : Nat} {zs : List Int} (hg0 : Tryd.prog.globalNamed n = some g) (ht0 : (Tryd.prog.globals[g]?).map (·.type) = some 35) (hm : (n, Lib.tabData .u8 zs) ∈ l) : Lib.TabBelow Tryd.prog W.heap.size W n .u8 zs := by
  obtain ⟨g', t, cs, fuel, p, hg, ht, hv, hd⟩ := Lib.laidMet.reads h hm
  obtain rfl := Option.some.inj (hg0.symm.trans hg)
  obtain rfl := Option.some.inj (ht0.symm.trans ht)
  refine Lib.tabBelow_of_tabIs ?_
  unfold Lib.TabIs
  rw [hv, ← Lib.cells_of_tab (n := 256) Tryd.underlying35 Tryd.underlying5 (by kernel_rfl) (by kernel_rfl) hd]
theorem u8x : Go.Proofs.U8Extra Tryd.prog Tryd.lays260_ren := { n3 := by kernel_rfl, n4 := by kernel_rfl, y3 := by kernel_rfl, y4 := by kernel_rfl, c5 := by kernel_rfl, c119 := by kernel_rfl, c138 := by kernel_rfl }
theorem LaidW.of_laid {W : World} {l : List (String × DataW Unit)} (h : laidMet Tryd.prog l W) (h1 : ("strings.asciiSpace", Lib.tabData .u8 Lib.asciiSpaceTab) ∈ l) (h2 : ("unicode.properties", Lib.tabData .u8 Lib.propertiesTab) ∈ l) (h3 : ("unicode/utf8.first", Lib.firstData) ∈ l) (h4 : ("unicode/utf8.acceptRanges", Lib.acceptData) ∈ l) : LaidW W :=
  ⟨tab256 h (g := 6) (by kernel_rfl) (by kernel_rfl) h1, tab256 h (g := 2) (by kernel_rfl) (by kernel_rfl) h2, Go.Proofs.utf8Tabs_of_reads Tryd.lays260 u8x (Lib.laidMet.reads h h3) (Lib.laidMet.reads h h4)⟩

def asciiB (s : ByteArray) : Bool := s.data.toList.all fun b => decide (b.toNat < 128)
theorem asciiB_iff {s : ByteArray} (h : asciiB s = true) : Ascii s := fun b hb => of_decide_eq_true (List.all_eq_true.1 h b hb)
def impl_TwSplitCamelCase.f (a0 : ByteArray) : Option (List ByteArray) := if a0.size ≤ 1000000 ∧ asciiB a0 = true then some ((camel a0.data.toList).map fun s => ⟨s.toArray⟩) else none

theorem low_cls (b : UInt8) (hb : b.toNat < 128) : Lib.isLowerL (b.toNat : Int) = (cls b == 1) := by
  have : ∀ n : Fin 256, n.val < 128 → Lib.isLowerL ((UInt8.ofNat n.val).toNat : Int) = (cls (UInt8.ofNat n.val) == 1) := by decide +kernel
  have := this ⟨b.toNat, b.toNat_lt⟩ hb
  simpa using this
theorem up_cls (b : UInt8) (hb : b.toNat < 128) : Lib.isUpperL (b.toNat : Int) = (cls b == 2) := by
  have : ∀ n : Fin 256, n.val < 128 → Lib.isUpperL ((UInt8.ofNat n.val).toNat : Int) = (cls (UInt8.ofNat n.val) == 2) := by decide +kernel
  have := this ⟨b.toNat, b.toNat_lt⟩ hb
  simpa using this
theorem dig_cls (b : UInt8) (hb : b.toNat < 128) : Lib.isDigitL (b.toNat : Int) = (cls b == 3) := by
  have : ∀ n : Fin 256, n.val < 128 → Lib.isDigitL ((UInt8.ofNat n.val).toNat : Int) = (cls (UInt8.ofNat n.val) == 3) := by decide +kernel
  have := this ⟨b.toNat, b.toNat_lt⟩ hb
  simpa using this
theorem isLow (b : UInt8) (hb : b.toNat < 128) (w : World) (hT : LaidW w) : Calls Tryd.prog 11 #[.int .i32 (b.toNat : Int)] w fun e w' => e = .returned (.bool (cls b == 1)) ∧ w = w' := by
  refine (Tryd.unicode_IsLower b.toNat w (by omega) hT.pr.here).mono ?_
  rintro e w' ⟨he, hw⟩
  exact ⟨by rw [he, low_cls b hb], hw.symm⟩
theorem isUp (b : UInt8) (hb : b.toNat < 128) (w : World) (hT : LaidW w) : Calls Tryd.prog 12 #[.int .i32 (b.toNat : Int)] w fun e w' => e = .returned (.bool (cls b == 2)) ∧ w = w' := by
  refine (Tryd.unicode_IsUpper b.toNat w (by omega) hT.pr.here).mono ?_
  rintro e w' ⟨he, hw⟩
  exact ⟨by rw [he, up_cls b hb], hw.symm⟩
theorem isDig (b : UInt8) (hb : b.toNat < 128) (w : World) : Calls Tryd.prog 13 #[.int .i32 (b.toNat : Int)] w fun e w' => e = .returned (.bool (cls b == 3)) ∧ w = w' := by
  refine (Tryd.unicode_IsDigit (b.toNat : Int) w (by omega)).mono ?_
  rintro e w' ⟨he, hw⟩
  exact ⟨by rw [he, dig_cls b hb], hw.symm⟩
theorem valid (s : ByteArray) (hs : Ascii s) (hz : s.size ≤ 1000000) (w : World) (hT : LaidW w) : Calls Tryd.prog 10 #[.string s] w fun e w' => e = .returned (.bool true) ∧ Below w.heap.size w w' := by
  refine (Tryd.utf8_ValidString s w (by omega) hT.u8).mono ?_
  rintro e w' ⟨he, hw⟩
  have : Lib.validD s.data.toList = true := by
    rw [Lib.validD_ascii s.data.toList.length s.data.toList (fun b hb => hs b (List.mem_of_mem_take hb)), List.drop_length]
    rfl
  exact ⟨by rw [he, this], hw⟩
end Go.Proofs.YtienokiifhcelaaDoor.Hand
