/- What strconv.Itoa computes where the world holds its table of powers of ten. -/
import Derived.Test.YthepbgakfkiliaaRDoorShelf
import Derived.Test.YthepbgakfkiliaaRDoorWMore
import Derived.Lib.AppendIntMem
import Derived.Lib.LaidU8
namespace Go.Proofs.YthepbgakfkiliaaRDoor.Hand
open Go.RowKit Go.Proofs.YthepbgakfkiliaaRDoorW.PrintWords
/-- The listed table holds what its initialiser lays, whatever is done at blocks that the call makes. -/
def LaidW (w : World) : Prop := Lib.TabBelow Tryd.prog w.heap.size w "internal/strconv.uint64pow10" .u64 Lib.pow10Tab
theorem LaidW.on {w W : World} (h : LaidW w) (hb : Below w.heap.size w W) : LaidW W := fun w' h' => h w' (hb.trans (h'.mono hb.size))
theorem LaidW.of {w : World} (h : Lib.TabIs Tryd.prog w "internal/strconv.uint64pow10" .u64 Lib.pow10Tab) : LaidW w := Lib.tabBelow_of_tabIs h
theorem LaidW.of_laid {W : World} {l : List (String × DataW Unit)} (h : laidMet Tryd.prog l W) (hm : ("internal/strconv.uint64pow10", Lib.tabData .u64 Lib.pow10Tab) ∈ l) : LaidW W := by
  obtain ⟨g, t, cs, fuel, p, hg, ht, hv, hd⟩ := Lib.laidMet.reads h hm
  have hg0 : Tryd.prog.globalNamed "internal/strconv.uint64pow10" = some 8 := by kernel_rfl
  obtain rfl := Option.some.inj (hg0.symm.trans hg)
  have ht0 : (Tryd.prog.globals[8]?).map (·.type) = some 105 := by kernel_rfl
  obtain rfl := Option.some.inj (ht0.symm.trans ht)
  refine LaidW.of ?_
  unfold Lib.TabIs
  rw [hv, ← Lib.cells_of_tab (n := 20) Tryd.underlying105 Tryd.underlying81 (by kernel_rfl) (by kernel_rfl) hd]
def strconv_Itoa.f (a0 : Int) : Option ByteArray := if -9223372036854775808 ≤ a0 ∧ a0 ≤ 9223372036854775807 then some ⟨(Lib.itoa a0).toArray⟩ else none
theorem strconv_Itoa.calls (a0 : Int) (r : ByteArray) (w : World) (hT : LaidW w) (h : strconv_Itoa.f a0 = some r) :
    Calls Tryd.prog 21 #[.int .i64 a0] w fun e w' => e = .returned (.string r) ∧ Below w.heap.size w w' := by
  unfold strconv_Itoa.f at h
  split at h
  case isFalse => cases h
  rename_i hc
  obtain rfl := Option.some.inj h
  refine (Tryd.strconv_Itoa a0 hc.1 hc.2 w hT.here).mono ?_
  rintro e w' ⟨he, k, os, rfl⟩
  exact ⟨he, Lib.below_grow _ _ (Nat.le_refl _) _ _⟩
end Go.Proofs.YthepbgakfkiliaaRDoor.Hand
