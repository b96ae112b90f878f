/- What initForRender does to a list with a style: blanks as wide as the connector, a size, a class. -/
import Derived.Test.YtmakcmggicedfaaDoorHandListA
import Derived.Test.YtmakcmggicedfaaDoorShelf
import Derived.Deep.RegionHeld3
import Derived.Deep.RegionWith
import Derived.Deep.Cut
import Derived.Outline
import Derived.IntWalk
namespace Go.Proofs.YtmakcmggicedfaaDoor.Hand
open Go.RowKit Go.Proofs.YtmakcmggicedfaaDoorW.PrintWords Go.Proofs.YtmakcmggicedfaaDoor.Base
set_option linter.unusedVariables false
set_option linter.unusedSimpArgs false

theorem runeCount (s : ByteArray) (w : World) (hs : s.size ≤ 1000000000000) :
    Calls Tryd.prog 56 #[.string s] w fun e w' => e = .returned (.int .i64 (Lib.runeCount s)) ∧ Below w.heap.size w w' := by
  refine (Tryd.utf8_RuneCountInString s w (by omega)).mono ?_
  rintro e w' ⟨rfl, pos, rfl⟩
  exact ⟨rfl, (Below.refl _ _).alloc (Nat.le_refl _) _⟩
theorem rc_le (s : ByteArray) : Lib.runeCount s ≤ s.size := Lib.runeCount_le s

/-- The blanks. -/
def blanks (s : ByteArray) : ByteArray := ⟨(Lib.repeatL [32] (Lib.runeCount s)).toArray⟩

theorem style_ (w : World) (B L S : Nat) (ap : Int) (cvs css : ByteArray) (lv0 : Int) (st : Sty) (v : Value) (xs : List (Int × ByteArray)) (H : ListIn w B L S ap cvs css lv0 st v xs) :
    Calls Tryd.prog 54 #[.pointer (some ⟨L, 0, none⟩)] w fun e w' => e = .returned (.pointer (some ⟨S, 0, none⟩)) ∧ w = w' := by
  obtain ⟨_, _, _, hL, _⟩ := H
  have hc5 : w.cell? ⟨L, 5, none⟩ = some (.pointer (some ⟨S, 0, none⟩)) := by rw [blk_cell hL]; rfl
  clear hL
  go_enter Tryd.func54, Tryd.ntmps54
  go_wp2
  go_ret
  exact ⟨rfl, rfl⟩

theorem list_cells {w : World} {B L S : Nat} {ap : Int} {cvs css : ByteArray} {lv0 : Int} {st : Sty} {v : Value} {xs : List (Int × ByteArray)} (H : ListIn w B L S ap cvs css lv0 st v xs) :
    w.cell? ⟨L, 0, none⟩ = some (.int .i64 ap) ∧ w.cell? ⟨L, 5, none⟩ = some (.pointer (some ⟨S, 0, none⟩)) ∧ w.cell? ⟨S, 5, none⟩ = some (.string st.vert) ∧ w.cell? ⟨S, 7, none⟩ = some (.string st.newline) ∧ w.cell? ⟨S, 8, none⟩ = some (.string st.pre) ∧ w.frozen? ⟨L, 0, none⟩ = false ∧ w.frozen? ⟨L, 1, none⟩ = false ∧ w.frozen? ⟨L, 2, none⟩ = false := by
  obtain ⟨_, _, hS, hL, _⟩ := H
  exact ⟨by rw [blk_cell hL]; rfl, by rw [blk_cell hL]; rfl, by rw [blk_cell hS]; rfl, by rw [blk_cell hS]; rfl, by rw [blk_cell hS]; rfl, blk_frozen hL 0, blk_frozen hL 1, blk_frozen hL 2⟩

theorem list_cell1 {w : World} {B L S : Nat} {ap : Int} {cvs css : ByteArray} {lv0 : Int} {st : Sty} {v : Value} {xs : List (Int × ByteArray)} (H : ListIn w B L S ap cvs css lv0 st v xs) : ∃ y, w.cell? ⟨L, 1, none⟩ = some y := by
  obtain ⟨_, _, hS, hL, _⟩ := H
  exact ⟨_, by rw [blk_cell hL]; rfl⟩
/-- Below C all stays; of what was there all but block L stays. -/
def KeptB (C L : Nat) (w w' : World) : Prop := Below C w w' ∧ w.heap.size ≤ w'.heap.size ∧ ∀ k, k ≠ L → k < w.heap.size → w'.heap[k]? = w.heap[k]?
theorem KeptB.refl (C L : Nat) (w : World) : KeptB C L w w := ⟨Below.refl _ _, Nat.le_refl _, fun _ _ _ => rfl⟩
theorem KeptB.on {C L b : Nat} {w w1 w2 : World} (h : KeptB C L w w1) (hC : C ≤ b) (hw : w.heap.size ≤ b) (hb : Below b w1 w2) : KeptB C L w w2 :=
  ⟨h.1.trans (hb.mono hC), Nat.le_trans h.2.1 hb.size, fun k h1 h2 => (hb.block k (by omega)).trans (h.2.2 k h1 h2)⟩
theorem KeptB.step {C L : Nat} {w w1 w2 : World} (h : KeptB C L w w1) (hC : C ≤ w.heap.size) (hb : Below w1.heap.size w1 w2) : KeptB C L w w2 :=
  h.on (Nat.le_trans hC h.2.1) h.2.1 hb
theorem KeptB.drew {C L : Nat} {w w1 : World} (h : KeptB C L w w1) : KeptB C L w w1.drew := ⟨below_drew1 h.1, h.2.1, h.2.2⟩
theorem KeptB.set {C L : Nat} {w w1 : World} (h : KeptB C L w w1) (hC : C ≤ L) (j : Nat) (v : Value) : KeptB C L w (w1.setCell ⟨L, j, none⟩ v) :=
  ⟨h.1.setCell (p := ⟨L, j, none⟩) hC v, by simpa using h.2.1, fun k h1 h2 => (Below.heap_setCell w1 ⟨L, j, none⟩ v k h1).trans (h.2.2 k h1 h2)⟩
set_option maxHeartbeats 8000000 in
set_option maxRecDepth 100000 in
theorem initForRenderK (w : World) (B L S : Nat) (ap0 : Int) (cvs css : ByteArray) (lv0 : Int) (st : Sty) (v : Value) (xs : List (Int × ByteArray)) (H : ListIn w B L S ap0 cvs css lv0 st v xs)
    (hxs : xs.length ≤ 1000) (hlev : ∀ x ∈ xs, 0 ≤ x.1 ∧ x.1 ≤ 1000 ∧ x.2.size ≤ 1000000) (hp : st.pre.size ≤ 1000000) (hv : st.vert.size ≤ 1000000) (hnl : st.newline.size ≤ 2147483647) (C : Nat) (hC : C ≤ L) (hCw : C ≤ w.heap.size) :
    Calls Tryd.prog 47 #[.pointer (some ⟨L, 0, none⟩)] w fun e w' => e = .returned (.tuple #[]) ∧ ∃ ap css', 0 ≤ ap ∧ ap ≤ 3300000000000 ∧ ListIn w' B L S ap (blanks st.vert) css' lv0 st v xs ∧ KeptB C L w w' := by
  have HL := Aside0.mk H
  obtain ⟨c0, c5, s5, s7, s8, f0, f1, f2⟩ := list_cells H
  have hrv := rc_le st.vert
  have HREP : Aside0 ((⟨#[32]⟩ : ByteArray).size * Lib.runeCount st.vert ≤ 140737488355328) := ⟨by have : (⟨#[32]⟩ : ByteArray).size = 1 := rfl; rw [this]; omega⟩
  go_enter Tryd.func47, Tryd.ntmps47
  go_upto_region 2 with (first
    | (go_at_call 54; refine (style_ w B L S ap0 cvs css lv0 st v xs HL.out).mono ?_; rintro e w' ⟨rfl, rfl⟩)
    | (go_at_call 56; refine (runeCount st.vert _ (by omega)).mono ?_; rintro e w1 ⟨rfl, b1⟩)
    | (go_at_call 55; refine (Tryd.strings_Repeat ⟨#[32]⟩ (Lib.runeCount st.vert) w1 (by omega) HREP.out).mono ?_; rintro e w2 ⟨rfl, b2⟩; have H2 := Aside0.mk ((HL.out.grow b1).grow b2); obtain ⟨d0, d5, t5, t7, t8, g0, g1, g2⟩ := list_cells H2.out; obtain ⟨yo, hyo⟩ : ∃ y, w2.cell? ⟨L, 1, none⟩ = some y := list_cell1 H2.out))
  have H3 := Aside0.mk (H2.out.set1 (blanks st.vert))
  have B2 : KeptB C L w w2 := ((KeptB.refl C L w).step hCw b1).step hCw b2
  have B3 := Aside0.mk (B2.set hC 1 (.string (blanks st.vert)))
  change Code.wp _ _ _ _ (w2.setCell ⟨L, 1, none⟩ (.string (blanks st.vert)))
  generalize (w2.setCell ⟨L, 1, none⟩ (.string (blanks st.vert))) = w3 at H3 B3 ⊢
  -- REST
  obtain ⟨c0, c5, s5, s7, s8, f0, f1, f2⟩ := list_cells H3.out
  clear c5 s5 s7 s8 f1 f2 d0 d5 t5 t7 t8 g0 g1 g2 hyo b1 b2
  go_upto_region 3 with (fail)
  have H4 := Aside0.mk (H3.out.set0 0)
  have B4 := Aside0.mk (B3.out.set hC 0 (.int .i64 0))
  change Code.wp _ _ _ _ (w3.setCell ⟨L, 0, none⟩ (.int .i64 0))
  generalize (w3.setCell ⟨L, 0, none⟩ (.int .i64 0)) = w4 at H4 B4 ⊢
  clear c0 f0 H3 B3 H2 B2
  obtain ⟨ao, c, rfl, hrows⟩ := H4.out.2.2.2.2
  have hc3 : w4.cell? ⟨L, 3, none⟩ = some (.slice ao xs.length c) := by rw [blk_cell H4.out.2.2.2.1]; rfl
  clear hrows
  go_wp2
  clear hc3
  go_loopg [26] xs.length (fun kq v26 w' => ∃ (i : Nat) (ap : Int), v26 = .int .i64 (i : Int) ∧ Aside0 (i + kq = xs.length) ∧ Aside0 (0 ≤ ap ∧ ap ≤ (i : Int) * 3200000000) ∧ Aside0 (ListIn w' B L S ap (blanks st.vert) css lv0 st (.slice ao xs.length c) xs) ∧ Aside0 (KeptB C L w w'))
  case atStart => exact ⟨0, 0, rfl, ⟨by omega⟩, ⟨by omega, by omega⟩, H4, B4⟩
  case round =>
    clear H4 B4 HL
    obtain ⟨i, ap, rfl, HK, HAP, H5, B5⟩ := hrel
    by_cases hi : i < xs.length
    · obtain ⟨x, hxi⟩ : ∃ x, xs[i]? = some x := ⟨xs[i], by simp [hi]⟩
      have hxm : x ∈ xs := List.mem_of_getElem? hxi
      obtain ⟨hx1, hx2, hx3⟩ := hlev x hxm
      obtain ⟨_, _, _, _, ao', c', he, hrows⟩ := H5.out
      simp only [Value.slice.injEq] at he
      obtain ⟨rfl, _, rfl⟩ := he
      obtain ⟨a, cur, fz, rfl, haB, hrow, hrows⟩ := hrows (by omega)
      obtain ⟨p, hpB, hcr, hpx⟩ := hrows i x hxi
      have hca : wr.cell? ⟨a, i, none⟩ = some (.pointer (some ⟨p, 0, none⟩)) := by rw [Lib.cell_of_heap hrow]; exact hcr
      have P5 := Aside0.mk hpx
      obtain ⟨lvl, hlvl⟩ : ∃ y, x.1 = y := ⟨_, rfl⟩
      obtain ⟨tx, htx⟩ : ∃ y, x.2 = y := ⟨_, rfl⟩
      rw [hlvl, htx] at P5
      rw [hlvl] at hx1 hx2
      rw [htx] at hx3
      clear hrow hrows hcr hpx hxi hxm hlvl htx
      have hap1 := HAP.out.1
      have hap2 := HAP.out.2
      have hiN : (i : Int) * 3200000000 ≤ 1000 * 3200000000 := by omega
      have p1 : decide ((i : Int) < (xs.length : Int)) = true := decide_eq_true (by omega)
      have hpL : p ≠ L := Ne.symm (blk_ne' H5.out.2.2.2.1 P5.out neLI)
      have hrp := rc_le st.pre
      have hrv2 := rc_le st.vert
      have hrt := rc_le tx
      have hrn := rc_le st.newline
      have P6 := P5
      go_upto_region 6 with (fail)
      clear hca p1
      obtain ⟨r1, hr1⟩ : ∃ n : Nat, Lib.runeCount st.pre = n := ⟨_, rfl⟩
      have hbr1 : r1 ≤ 1000000 := by omega
      have CC1 : ∀ w : World, Calls Tryd.prog 56 #[.string st.pre] w fun e w' => e = .returned (.int .i64 (r1 : Int)) ∧ Below w.heap.size w w' := fun w => by rw [← hr1]; exact runeCount st.pre w (by omega)
      obtain ⟨r2, hr2⟩ : ∃ n : Nat, Lib.runeCount st.vert = n := ⟨_, rfl⟩
      have hbr2 : r2 ≤ 1000000 := by omega
      have CC2 : ∀ w : World, Calls Tryd.prog 56 #[.string st.vert] w fun e w' => e = .returned (.int .i64 (r2 : Int)) ∧ Below w.heap.size w w' := fun w => by rw [← hr2]; exact runeCount st.vert w (by omega)
      obtain ⟨r3, hr3⟩ : ∃ n : Nat, Lib.runeCount tx = n := ⟨_, rfl⟩
      have hbr3 : r3 ≤ 1000000 := by omega
      have CC3 : ∀ w : World, Calls Tryd.prog 56 #[.string tx] w fun e w' => e = .returned (.int .i64 (r3 : Int)) ∧ Below w.heap.size w w' := fun w => by rw [← hr3]; exact runeCount tx w (by omega)
      obtain ⟨r4, hr4⟩ : ∃ n : Nat, Lib.runeCount st.newline = n := ⟨_, rfl⟩
      have hbr4 : r4 ≤ 2147483647 := by omega
      have CC4 : ∀ w : World, Calls Tryd.prog 56 #[.string st.newline] w fun e w' => e = .returned (.int .i64 (r4 : Int)) ∧ Below w.heap.size w w' := fun w => by rw [← hr4]; exact runeCount st.newline w (by omega)
      clear hr1 hr2 hr3 hr4 hrp hrv2 hrt hrn hrv HREP hap1 hap2
      go_cut [] (fun wc => ∃ ap : Int, Aside0 (0 ≤ ap ∧ ap ≤ (i : Int) * 3200000000 + 1000000) ∧ Aside0 (ListIn wc B L S ap (blanks st.vert) css lv0 st (.slice (some ⟨a, 0, none⟩) xs.length c) xs) ∧ Aside0 (wc.heap[p]? = some (.cells #[.int .i64 lvl, .string tx] 77 (0, 0))) ∧ Aside0 (KeptB C L w wc))
      case first =>
        obtain ⟨c0, c5, s5, s7, s8, f0, f1, f2⟩ := list_cells H5.out
        have hp0 : wr.cell? ⟨p, 0, none⟩ = some (.int .i64 lvl) := by rw [blk_cell P5.out]; rfl
        have hp1 : wr.cell? ⟨p, 1, none⟩ = some (.string tx) := by rw [blk_cell P5.out]; rfl
        have hap1 := HAP.out.1
        have hap2 := HAP.out.2
        have ew : IntKind.i64.wrap (ap + (r1 : Int)) = ap + (r1 : Int) := Go.IntWalk.i64_in _ (by omega)
        clear s5 s7 f1 f2 hp0 hp1
        go_region_with ((go_at_call 56; refine (CC1 _).mono ?_; rintro e wq ⟨rfl, hb⟩; have k_c0 := (hb.cell (World.block_lt_of_cell? _ _ c0)).trans c0; have k_c5 := (hb.cell (World.block_lt_of_cell? _ _ c5)).trans c5; have k_s8 := (hb.cell (World.block_lt_of_cell? _ _ s8)).trans s8; have k_f0 := (hb.frozen (World.block_lt_of_cell? _ _ c0)).trans f0))
        all_goals
          go_wp2_with fail
          go_meet
          case rel => exact ⟨ap + (r1 : Int), ⟨by omega, by omega⟩, ⟨(H5.out.drew.grow hb).set0 _⟩, ⟨blk_far (blk_below (blk_drew P5.out) hb) hpL _⟩, ⟨(B5.out.drew.step hCw hb).set hC 0 _⟩⟩
      case rest =>
        clear H5 P5 P6 B5 HAP
        obtain ⟨ap, HAP, H5, P5, B5⟩ := hcut
        have hp0 : wc.cell? ⟨p, 0, none⟩ = some (.int .i64 lvl) := by rw [blk_cell P5.out]; rfl
        go_upto_if 49 with (fail)
        clear hp0
        go_cut [] (fun wc => ∃ ap : Int, Aside0 (0 ≤ ap ∧ ap ≤ (i : Int) * 3200000000 + 1001000000) ∧ Aside0 (ListIn wc B L S ap (blanks st.vert) css lv0 st (.slice (some ⟨a, 0, none⟩) xs.length c) xs) ∧ Aside0 (wc.heap[p]? = some (.cells #[.int .i64 lvl, .string tx] 77 (0, 0))) ∧ Aside0 (KeptB C L w wc))
        case first =>
          by_cases hl0 : 0 < lvl
          · have hm1 : 0 ≤ (r2 : Int) * lvl := Int.mul_nonneg (by omega) (by omega)
            have hm2 : (r2 : Int) * lvl ≤ 1000000 * 1000 := Int.mul_le_mul (by omega) (by omega) (by omega) (by omega)
            obtain ⟨m, hm⟩ : ∃ m : Int, (r2 : Int) * lvl = m := ⟨_, rfl⟩
            rw [hm] at hm1 hm2
            have HM := Aside0.mk hm
            clear hm
            have d1 : decide (0 < lvl) = true := decide_eq_true hl0
            go_upto_region 8 with (fail)
            have hap1 := HAP.out.1
            have hap2 := HAP.out.2
            have ew1 : IntKind.i64.wrap ((r2 : Int) * lvl) = m := by rw [HM.out]; exact Go.IntWalk.i64_in _ (by omega)
            obtain ⟨c0, c5, s5, s7, s8, f0, f1, f2⟩ := list_cells H5.out
            have hp0 : wc.cell? ⟨p, 0, none⟩ = some (.int .i64 lvl) := by rw [blk_cell P5.out]; rfl
            have hp1 : wc.cell? ⟨p, 1, none⟩ = some (.string tx) := by rw [blk_cell P5.out]; rfl
            have hap1 := HAP.out.1
            have hap2 := HAP.out.2
            have ew : IntKind.i64.wrap (ap + m) = ap + m := Go.IntWalk.i64_in _ (by omega)
            clear d1
            clear s7 s8 f1 f2 hp1
            go_region_with ((go_at_call 56; refine (CC2 _).mono ?_; rintro e wq ⟨rfl, hb⟩; have k_c0 := (hb.cell (World.block_lt_of_cell? _ _ c0)).trans c0; have k_c5 := (hb.cell (World.block_lt_of_cell? _ _ c5)).trans c5; have k_s5 := (hb.cell (World.block_lt_of_cell? _ _ s5)).trans s5; have k_hp0 := (hb.cell (World.block_lt_of_cell? _ _ hp0)).trans hp0; have k_f0 := (hb.frozen (World.block_lt_of_cell? _ _ c0)).trans f0))
            all_goals
              go_wp2_with fail
              go_meet
              case rel => exact ⟨ap + m, ⟨by omega, by omega⟩, ⟨(H5.out.drew.grow hb).set0 _⟩, ⟨blk_far (blk_below (blk_drew P5.out) hb) hpL _⟩, ⟨(B5.out.drew.step hCw hb).set hC 0 _⟩⟩
          · have d1 : decide (0 < lvl) = false := decide_eq_false hl0
            go_wp2
            go_meet
            case rel => exact ⟨ap, ⟨HAP.out.1, by have := HAP.out.2; omega⟩, H5, P5, B5⟩
        case rest =>
          clear H5 P5 B5 HAP
          obtain ⟨ap, HAP, H5, P5, B5⟩ := hcut
          go_upto_region 9 with (fail)
          go_cut [] (fun wc => ∃ ap : Int, Aside0 (0 ≤ ap ∧ ap ≤ (i : Int) * 3200000000 + 1002000000) ∧ Aside0 (ListIn wc B L S ap (blanks st.vert) css lv0 st (.slice (some ⟨a, 0, none⟩) xs.length c) xs) ∧ Aside0 (wc.heap[p]? = some (.cells #[.int .i64 lvl, .string tx] 77 (0, 0))) ∧ Aside0 (KeptB C L w wc))
          case first =>
            obtain ⟨c0, c5, s5, s7, s8, f0, f1, f2⟩ := list_cells H5.out
            have hp0 : wc.cell? ⟨p, 0, none⟩ = some (.int .i64 lvl) := by rw [blk_cell P5.out]; rfl
            have hp1 : wc.cell? ⟨p, 1, none⟩ = some (.string tx) := by rw [blk_cell P5.out]; rfl
            have hap1 := HAP.out.1
            have hap2 := HAP.out.2
            have ew : IntKind.i64.wrap (ap + (r2 : Int)) = ap + (r2 : Int) := Go.IntWalk.i64_in _ (by omega)
            clear s7 s8 f1 f2 hp0 hp1
            go_region_with ((go_at_call 56; refine (CC2 _).mono ?_; rintro e wq ⟨rfl, hb⟩; have k_c0 := (hb.cell (World.block_lt_of_cell? _ _ c0)).trans c0; have k_c5 := (hb.cell (World.block_lt_of_cell? _ _ c5)).trans c5; have k_s5 := (hb.cell (World.block_lt_of_cell? _ _ s5)).trans s5; have k_f0 := (hb.frozen (World.block_lt_of_cell? _ _ c0)).trans f0))
            all_goals
              go_wp2_with fail
              go_meet
              case rel => exact ⟨ap + (r2 : Int), ⟨by omega, by omega⟩, ⟨(H5.out.drew.grow hb).set0 _⟩, ⟨blk_far (blk_below (blk_drew P5.out) hb) hpL _⟩, ⟨(B5.out.drew.step hCw hb).set hC 0 _⟩⟩
          case rest =>
            clear H5 P5 B5 HAP
            obtain ⟨ap, HAP, H5, P5, B5⟩ := hcut
            go_upto_region 10 with (fail)
            go_cut [] (fun wc => ∃ ap : Int, Aside0 (0 ≤ ap ∧ ap ≤ (i : Int) * 3200000000 + 1003000000) ∧ Aside0 (ListIn wc B L S ap (blanks st.vert) css lv0 st (.slice (some ⟨a, 0, none⟩) xs.length c) xs) ∧ Aside0 (wc.heap[p]? = some (.cells #[.int .i64 lvl, .string tx] 77 (0, 0))) ∧ Aside0 (KeptB C L w wc))
            case first =>
              obtain ⟨c0, c5, s5, s7, s8, f0, f1, f2⟩ := list_cells H5.out
              have hp0 : wc.cell? ⟨p, 0, none⟩ = some (.int .i64 lvl) := by rw [blk_cell P5.out]; rfl
              have hp1 : wc.cell? ⟨p, 1, none⟩ = some (.string tx) := by rw [blk_cell P5.out]; rfl
              have hap1 := HAP.out.1
              have hap2 := HAP.out.2
              have ew : IntKind.i64.wrap (ap + (r3 : Int)) = ap + (r3 : Int) := Go.IntWalk.i64_in _ (by omega)
              clear c5 s5 s7 s8 f1 f2 hp0
              go_region_with ((go_at_call 56; refine (CC3 _).mono ?_; rintro e wq ⟨rfl, hb⟩; have k_c0 := (hb.cell (World.block_lt_of_cell? _ _ c0)).trans c0; have k_hp1 := (hb.cell (World.block_lt_of_cell? _ _ hp1)).trans hp1; have k_f0 := (hb.frozen (World.block_lt_of_cell? _ _ c0)).trans f0))
              all_goals
                go_wp2_with fail
                go_meet
                case rel => exact ⟨ap + (r3 : Int), ⟨by omega, by omega⟩, ⟨(H5.out.drew.grow hb).set0 _⟩, ⟨blk_far (blk_below (blk_drew P5.out) hb) hpL _⟩, ⟨(B5.out.drew.step hCw hb).set hC 0 _⟩⟩
            case rest =>
              clear H5 P5 B5 HAP
              obtain ⟨ap, HAP, H5, P5, B5⟩ := hcut
              go_upto_region 11 with (fail)
              obtain ⟨c0, c5, s5, s7, s8, f0, f1, f2⟩ := list_cells H5.out
              have hp0 : wc.cell? ⟨p, 0, none⟩ = some (.int .i64 lvl) := by rw [blk_cell P5.out]; rfl
              have hp1 : wc.cell? ⟨p, 1, none⟩ = some (.string tx) := by rw [blk_cell P5.out]; rfl
              have hap1 := HAP.out.1
              have hap2 := HAP.out.2
              have ew : IntKind.i64.wrap (ap + (r4 : Int)) = ap + (r4 : Int) := Go.IntWalk.i64_in _ (by omega)
              clear s5 s8 f1 f2 hp0 hp1
              go_region_with ((go_at_call 56; refine (CC4 _).mono ?_; rintro e wq ⟨rfl, hb⟩; have k_c0 := (hb.cell (World.block_lt_of_cell? _ _ c0)).trans c0; have k_c5 := (hb.cell (World.block_lt_of_cell? _ _ c5)).trans c5; have k_s7 := (hb.cell (World.block_lt_of_cell? _ _ s7)).trans s7; have k_f0 := (hb.frozen (World.block_lt_of_cell? _ _ c0)).trans f0))
              all_goals
                go_wp2_with fail
                go_roundg (gk - 1)
                case measure => have := HK.out; omega
                case rel => exact ⟨i + 1, ap + (r4 : Int), by go_num, ⟨by have := HK.out; omega⟩, ⟨by omega, by omega⟩, ⟨(H5.out.drew.grow hb).set0 _⟩, ⟨(B5.out.drew.step hCw hb).set hC 0 _⟩⟩
    · have p1 : decide ((i : Int) < (xs.length : Int)) = false := decide_eq_false (by omega)
      have hc2 : wr.cell? ⟨L, 2, none⟩ = some (.string css) := by rw [blk_cell H5.out.2.2.2.1]; rfl
      obtain ⟨c0, c5, s5, s7, s8, f0, f1, f2⟩ := list_cells H5.out
      have hap1 := HAP.out.1
      have hap2 := HAP.out.2
      have hk := HK.out
      cases he : css.toList.isEmpty with
      | true =>
        go_wp2
        go_end0
        exact ⟨rfl, ap, _, hap1, by omega, H5.out.set2 _, B5.out.set hC 2 _⟩
      | false =>
        go_wp2
        go_end0
        exact ⟨rfl, ap, _, hap1, by omega, H5.out, B5.out⟩
theorem initForRender (w : World) (B L S : Nat) (ap0 : Int) (cvs css : ByteArray) (lv0 : Int) (st : Sty) (v : Value) (xs : List (Int × ByteArray)) (H : ListIn w B L S ap0 cvs css lv0 st v xs)
    (hxs : xs.length ≤ 1000) (hlev : ∀ x ∈ xs, 0 ≤ x.1 ∧ x.1 ≤ 1000 ∧ x.2.size ≤ 1000000) (hp : st.pre.size ≤ 1000000) (hv : st.vert.size ≤ 1000000) (hnl : st.newline.size ≤ 2147483647) (C : Nat) (hC : C ≤ L) (hCw : C ≤ w.heap.size) :
    Calls Tryd.prog 47 #[.pointer (some ⟨L, 0, none⟩)] w fun e w' => e = .returned (.tuple #[]) ∧ ∃ ap css', 0 ≤ ap ∧ ap ≤ 3300000000000 ∧ ListIn w' B L S ap (blanks st.vert) css' lv0 st v xs ∧ Below C w w' :=
  (initForRenderK w B L S ap0 cvs css lv0 st v xs H hxs hlev hp hv hnl C hC hCw).mono fun e w' h => by
    obtain ⟨h0, ap, css', h1, h2, h3, h4⟩ := h
    exact ⟨h0, ap, css', h1, h2, h3, h4.1⟩
end Go.Proofs.YtmakcmggicedfaaDoor.Hand
