/- A list of go-pretty's package list in memory, and what hasMoreItemsInLevel answers. -/
import Derived.Test.YtmakcmggicedfaaDoorProg
import Derived.Test.YtmakcmggicedfaaDoorWMore
import Derived.Test.YtmakcmggicedfaaDoorBase
import Derived.Lib.Builder
namespace Go.Proofs.YtmakcmggicedfaaDoor.Hand
open Go.RowKit Go.Proofs.YtmakcmggicedfaaDoorW.PrintWords Go.Proofs.YtmakcmggicedfaaDoor.Base
set_option linter.unusedVariables false
set_option linter.unusedSimpArgs false

/-- A style's fields. -/
structure Sty where
  fmt : Int
  single : ByteArray
  top : ByteArray
  first : ByteArray
  middle : ByteArray
  vert : ByteArray
  bottom : ByteArray
  newline : ByteArray
  pre : ByteArray
  name : ByteArray
def Sty.cells (s : Sty) : Array Value := #[.int .i64 s.fmt, .string s.single, .string s.top, .string s.first, .string s.middle, .string s.vert, .string s.bottom, .string s.newline, .string s.pre, .string s.name]

/-- Items, each in a block of its own below B, led to by a slice's row. -/
def ItemsIn (w : World) (B : Nat) (v : Value) (xs : List (Int × ByteArray)) : Prop :=
  ∃ ao c, v = .slice ao xs.length c ∧ (0 < xs.length → ∃ a cur fz, ao = some ⟨a, 0, none⟩ ∧ a < B ∧ w.heap[a]? = some (.cells cur 75 fz) ∧ ∀ (i : Nat) x, xs[i]? = some x → ∃ p, p < B ∧ cur[i]? = some (.pointer (some ⟨p, 0, none⟩)) ∧ w.heap[p]? = some (.cells #[.int .i64 x.1, .string x.2] 77 (0, 0)))

/-- A list: its block L, its style's block S. -/
def ListIn (w : World) (B L S : Nat) (ap : Int) (cvs css : ByteArray) (lv : Int) (st : Sty) (v : Value) (xs : List (Int × ByteArray)) : Prop :=
  L < B ∧ S < B ∧ w.heap[S]? = some (.cells st.cells 54 (0, 0)) ∧ w.heap[L]? = some (.cells #[.int .i64 ap, .string cvs, .string css, v, .int .i64 lv, .pointer (some ⟨S, 0, none⟩)] 66 (0, 0)) ∧ ItemsIn w B v xs

theorem ItemsIn.below {w w' : World} {B : Nat} {v : Value} {xs : List (Int × ByteArray)} (h : ItemsIn w B v xs) (hb : Below B w w') : ItemsIn w' B v xs := by
  obtain ⟨ao, c, rfl, hx⟩ := h
  refine ⟨ao, c, rfl, fun h0 => ?_⟩
  obtain ⟨a, cur, fz, ha, haB, hrow, hi⟩ := hx h0
  refine ⟨a, cur, fz, ha, haB, (hb.block a haB).trans hrow, fun i x hxi => ?_⟩
  obtain ⟨p, hp, hc, hh⟩ := hi i x hxi
  exact ⟨p, hp, hc, (hb.block p hp).trans hh⟩
theorem ListIn.below {w w' : World} {B L S : Nat} {ap : Int} {cvs css : ByteArray} {lv : Int} {st : Sty} {v : Value} {xs : List (Int × ByteArray)} (h : ListIn w B L S ap cvs css lv st v xs) (hb : Below B w w') : ListIn w' B L S ap cvs css lv st v xs := by
  obtain ⟨h1, h2, h3, h4, h5⟩ := h
  exact ⟨h1, h2, (hb.block S h2).trans h3, (hb.block L h1).trans h4, h5.below hb⟩
theorem ItemsIn.mono {w : World} {B B' : Nat} {v : Value} {xs : List (Int × ByteArray)} (h : ItemsIn w B v xs) (hb : B ≤ B') : ItemsIn w B' v xs := by
  obtain ⟨ao, c, rfl, hx⟩ := h
  refine ⟨ao, c, rfl, fun h0 => ?_⟩
  obtain ⟨a, cur, fz, ha, haB, hrow, hi⟩ := hx h0
  refine ⟨a, cur, fz, ha, by omega, hrow, fun i x hxi => ?_⟩
  obtain ⟨p, hp, hc, hh⟩ := hi i x hxi
  exact ⟨p, by omega, hc, hh⟩
theorem ListIn.mono {w : World} {B B' L S : Nat} {ap : Int} {cvs css : ByteArray} {lv : Int} {st : Sty} {v : Value} {xs : List (Int × ByteArray)} (h : ListIn w B L S ap cvs css lv st v xs) (hb : B ≤ B') : ListIn w B' L S ap cvs css lv st v xs := by
  obtain ⟨h1, h2, h3, h4, h5⟩ := h
  exact ⟨by omega, by omega, h3, h4, h5.mono hb⟩

theorem neLS : (66 : TypeId) ≠ 54 := by decide
theorem neLP : (66 : TypeId) ≠ 75 := by decide
theorem neLI : (66 : TypeId) ≠ 77 := by decide
theorem blk_ne' {w : World} {g g' : Nat} {t t' : TypeId} {cs cs' : Array Value} {f f' : Nat × Nat} (h : w.heap[g]? = some (.cells cs t f)) (h' : w.heap[g']? = some (.cells cs' t' f')) (hne : t ≠ t') : g ≠ g' := by
  rintro rfl
  rw [h] at h'
  simp only [Option.some.injEq, Obj.cells.injEq] at h'
  exact hne h'.2.1
/-- A store into the list's own block leaves what it leads to. -/
theorem ItemsIn.setL {w : World} {B L : Nat} {v : Value} {xs : List (Int × ByteArray)} {cs : Array Value} (hL : w.heap[L]? = some (.cells cs 66 (0, 0))) (h : ItemsIn w B v xs) (j : Nat) (u : Value) : ItemsIn (w.setCell ⟨L, j, none⟩ u) B v xs := by
  obtain ⟨ao, c, rfl, hx⟩ := h
  refine ⟨ao, c, rfl, fun h0 => ?_⟩
  obtain ⟨a, cur, fz, ha, haB, hrow, hi⟩ := hx h0
  refine ⟨a, cur, fz, ha, haB, (Below.heap_setCell w ⟨L, j, none⟩ u a (Ne.symm (blk_ne' hL hrow neLP))).trans hrow, fun i x hxi => ?_⟩
  obtain ⟨p, hp, hc, hh⟩ := hi i x hxi
  exact ⟨p, hp, hc, (Below.heap_setCell w ⟨L, j, none⟩ u p (Ne.symm (blk_ne' hL hh neLI))).trans hh⟩
theorem ListIn.set0 {w : World} {B L S : Nat} {ap : Int} {cvs css : ByteArray} {lv : Int} {st : Sty} {v : Value} {xs : List (Int × ByteArray)} (h : ListIn w B L S ap cvs css lv st v xs) (ap' : Int) : ListIn (w.setCell ⟨L, 0, none⟩ (.int .i64 ap')) B L S ap' cvs css lv st v xs := by
  obtain ⟨h1, h2, h3, h4, h5⟩ := h
  exact ⟨h1, h2, blk_far h3 (Ne.symm (blk_ne' h4 h3 neLS)) _, blk_put h4 0 _ rfl, h5.setL h4 _ _⟩
theorem ListIn.set1 {w : World} {B L S : Nat} {ap : Int} {cvs css : ByteArray} {lv : Int} {st : Sty} {v : Value} {xs : List (Int × ByteArray)} (h : ListIn w B L S ap cvs css lv st v xs) (cvs' : ByteArray) : ListIn (w.setCell ⟨L, 1, none⟩ (.string cvs')) B L S ap cvs' css lv st v xs := by
  obtain ⟨h1, h2, h3, h4, h5⟩ := h
  exact ⟨h1, h2, blk_far h3 (Ne.symm (blk_ne' h4 h3 neLS)) _, blk_put h4 1 _ rfl, h5.setL h4 _ _⟩
theorem ListIn.set2 {w : World} {B L S : Nat} {ap : Int} {cvs css : ByteArray} {lv : Int} {st : Sty} {v : Value} {xs : List (Int × ByteArray)} (h : ListIn w B L S ap cvs css lv st v xs) (css' : ByteArray) : ListIn (w.setCell ⟨L, 2, none⟩ (.string css')) B L S ap cvs css' lv st v xs := by
  obtain ⟨h1, h2, h3, h4, h5⟩ := h
  exact ⟨h1, h2, blk_far h3 (Ne.symm (blk_ne' h4 h3 neLS)) _, blk_put h4 2 _ rfl, h5.setL h4 _ _⟩
theorem ListIn.drewN {w : World} {B L S : Nat} {ap : Int} {cvs css : ByteArray} {lv : Int} {st : Sty} {v : Value} {xs : List (Int × ByteArray)} (h : ListIn w B L S ap cvs css lv st v xs) (n : Nat) : ListIn (w.drewN n) B L S ap cvs css lv st v xs := h
theorem ListIn.drew {w : World} {B L S : Nat} {ap : Int} {cvs css : ByteArray} {lv : Int} {st : Sty} {v : Value} {xs : List (Int × ByteArray)} (h : ListIn w B L S ap cvs css lv st v xs) : ListIn w.drew B L S ap cvs css lv st v xs := h
/-- Where the blocks stand. -/
theorem ListIn.grow {w w' : World} {B L S : Nat} {ap : Int} {cvs css : ByteArray} {lv : Int} {st : Sty} {v : Value} {xs : List (Int × ByteArray)} (h : ListIn w B L S ap cvs css lv st v xs) (hb : Below w.heap.size w w') : ListIn w' B L S ap cvs css lv st v xs := by
  obtain ⟨h1, h2, h3, h4, ao, c, rfl, hx⟩ := h
  refine ⟨h1, h2, blk_below h3 hb, blk_below h4 hb, ao, c, rfl, fun h0 => ?_⟩
  obtain ⟨a, cur, fz, ha, haB, hrow, hi⟩ := hx h0
  refine ⟨a, cur, fz, ha, haB, blk_below hrow hb, fun i x hxi => ?_⟩
  obtain ⟨p, hp, hc, hh⟩ := hi i x hxi
  exact ⟨p, hp, hc, blk_below hh hb⟩

/-- The levels of the items from a place on. -/
def lvs (xs : List (Int × ByteArray)) (k : Nat) : List Int := (xs.drop k).map (·.1)
/-- Whether there is one of a level, ahead of the next lesser one. -/
def moreL : List Int → Int → Bool
  | [], _ => false
  | x :: r, lv => if x < lv then false else if x = lv then true else moreL r lv

theorem ret_bool {a b : Bool} (h : a = b) : Ending.returned (.bool a) = Ending.returned (.bool b) := by rw [h]
theorem ret_str {a b : ByteArray} (h : a = b) : Ending.returned (.string a) = Ending.returned (.string b) := by rw [h]
theorem ret_int {k : IntKind} {a b : Int} (h : a = b) : Ending.returned (.int k a) = Ending.returned (.int k b) := by rw [h]

set_option maxHeartbeats 4000000 in
set_option maxRecDepth 100000 in
theorem hasMore (w : World) (B L S : Nat) (ap : Int) (cvs css : ByteArray) (lv0 : Int) (st : Sty) (v : Value) (xs : List (Int × ByteArray)) (H : ListIn w B L S ap cvs css lv0 st v xs) (lv : Int) (from_ : Nat) (hn : xs.length ≤ 1000000000) (hf : from_ ≤ 1000000000) :
    Calls Tryd.prog 49 #[.pointer (some ⟨L, 0, none⟩), .int .i64 lv, .int .i64 (from_ : Int)] w fun e w' => e = .returned (.bool (moreL (lvs xs (from_ + 1)) lv)) ∧ w = w' := by
  obtain ⟨_, _, _, hL, ao, c, rfl, hx⟩ := H
  have hc : w.cell? ⟨L, 3, none⟩ = some (.slice ao xs.length c) := by rw [blk_cell hL]; rfl
  have HX := Aside0.mk hx
  clear hx hL
  go_enter Tryd.func49, Tryd.ntmps49
  go_wp2
  go_loop [7] (fun i => ∃ k : Nat, from_ + 1 ≤ k ∧ k ≤ 1000000001 ∧ i = .int .i64 (k : Int) ∧ Aside0 (moreL (lvs xs (from_ + 1)) lv = moreL (lvs xs k) lv)) (fun i => 1000000002 - (intOf i).toNat)
  case atStart => exact ⟨from_ + 1, by omega, by omega, by go_num, ⟨rfl⟩⟩
  case round =>
    obtain ⟨k, hk1, hk2, rfl, HM⟩ := hrel
    by_cases hlt : k < xs.length
    · obtain ⟨x, hxk⟩ : ∃ x, xs[k]? = some x := ⟨xs[k], by simp [hlt]⟩
      obtain ⟨a, cur, fz, rfl, haB, hrow, hi⟩ := HX.out (by omega)
      obtain ⟨p, hpB, hcr, hcp⟩ := hi k x hxk
      have hca : w.cell? ⟨a, k, none⟩ = some (.pointer (some ⟨p, 0, none⟩)) := by rw [Lib.cell_of_heap hrow]; exact hcr
      have hcx : w.cell? ⟨p, 0, none⟩ = some (.int .i64 x.1) := by rw [blk_cell hcp]; rfl
      have hdrop : lvs xs k = x.1 :: lvs xs (k + 1) := by
        unfold lvs
        rw [List.drop_eq_getElem_cons hlt, List.map_cons]
        rw [List.getElem?_eq_getElem hlt] at hxk
        rw [Option.some.inj hxk]
      have HD := Aside0.mk hdrop
      obtain ⟨y, hy⟩ : ∃ y, x.1 = y := ⟨_, rfl⟩
      rw [hy] at hcx
      have HY := Aside0.mk hy
      clear hi hcp hdrop hy hxk hrow hcr
      have p1 : decide ((k : Int) < (xs.length : Int)) = true := decide_eq_true (by omega)
      by_cases h1 : y < lv
      · go_wp2
        go_ret
        exact ⟨ret_bool (by rw [HM.out, HD.out, HY.out, moreL, if_pos h1]), rfl⟩
      · by_cases h2 : y = lv
        · subst h2
          go_wp2
          go_ret
          exact ⟨ret_bool (by rw [HM.out, HD.out, HY.out, moreL, if_neg (by omega), if_pos rfl]), rfl⟩
        · go_wp2
          go_round
          case rel => exact ⟨k + 1, by omega, by omega, by go_num, ⟨by rw [HM.out, HD.out, HY.out, moreL, if_neg h1, if_neg h2]⟩⟩
          case measure => simp [intOf]; omega
    · have p1 : decide ((k : Int) < (xs.length : Int)) = false := decide_eq_false (by omega)
      go_wp2
      go_ret
      exact ⟨ret_bool (by rw [HM.out, lvs, List.drop_eq_nil_of_le (by omega)]; rfl), rfl⟩
end Go.Proofs.YtmakcmggicedfaaDoor.Hand
