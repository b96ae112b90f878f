-- Written by hprint.py, a program of this session
import Derived.Test.YthepbgakfkiliaaRPFnPartPrefixx0
import Derived.Test.YthepbgakfkiliaaRPFnPartPrefixx1
namespace Go.Proofs.YthepbgakfkiliaaR.PFnPartPrefix
open Go.RowKit Go.Proofs.YthepbgakfkiliaaR.Hand Go.Proofs.YthepbgakfkiliaaRW.PrintWords Go.Proofs.YthepbgakfkiliaaRW.PrintLast Go.Proofs.YthepbgakfkiliaaRW.PrintMore
attribute [local go_sem] max2_int min2_int max_two min_two max_three min_three max_four min_four   -- for this text's walks alone
set_option linter.unusedVariables false
set_option linter.unusedSimpArgs false

/-! ### laws_FnPartPrefix: function 3 -/
mutual
def laws_FnPartPrefix.j0 : Nat → List Int → Int → Bool → Int → ByteArray → ByteArray → ByteArray → ByteArray → ByteArray → ByteArray → ByteArray → ByteArray → Option (Bool)
  | 0, _, _, _, _, _, _, _, _, _, _, _, _ => none
  | k + 1, x0, x1, x16, x121000, x121001, x121002, x121003, x121004, x121005, x121006, x121007, x121008 => if x16 = true then (some true) else ((laws_fits.f k x0 60 0 20).bind fun t122 => (if t122 = true then (if x1 < 0 then (laws_FnPartPrefix.j1 k x0 x1 true x121000 x121001 x121002 x121003 x121004 x121005 x121006 x121007 x121008) else (if x1 ≥ (x0.length : Int) then (laws_FnPartPrefix.j1 k x0 x1 true x121000 x121001 x121002 x121003 x121004 x121005 x121006 x121007 x121008) else (if (wrap64 ((x121005.size : Int) + (x121008.size : Int))) > 60 then (laws_FnPartPrefix.j1 k x0 x1 true x121000 x121001 x121002 x121003 x121004 x121005 x121006 x121007 x121008) else ((spec_Single.f k x121005).bind fun t123 => (laws_FnPartPrefix.j1 k x0 x1 (!t123) x121000 x121001 x121002 x121003 x121004 x121005 x121006 x121007 x121008))))) else (laws_FnPartPrefix.j1 k x0 x1 true x121000 x121001 x121002 x121003 x121004 x121005 x121006 x121007 x121008)))
def laws_FnPartPrefix.j1 : Nat → List Int → Int → Bool → Int → ByteArray → ByteArray → ByteArray → ByteArray → ByteArray → ByteArray → ByteArray → ByteArray → Option (Bool)
  | 0, _, _, _, _, _, _, _, _, _, _, _, _ => none
  | k + 1, x0, x1, x45, x121000, x121001, x121002, x121003, x121004, x121005, x121006, x121007, x121008 => if x45 = true then (some true) else (laws_FnPartPrefix.l0 k x0 x1 x121008 0 x121000 x121001 x121002 x121003 x121004 x121005 x121006 x121007 x121008)
def laws_FnPartPrefix.l0 : Nat → List Int → Int → ByteArray → Int → Int → ByteArray → ByteArray → ByteArray → ByteArray → ByteArray → ByteArray → ByteArray → ByteArray → Option (Bool)
  | 0, _, _, _, _, _, _, _, _, _, _, _, _, _ => none
  | k + 1, x0, x1, x7, x8, x121000, x121001, x121002, x121003, x121004, x121005, x121006, x121007, x121008 => if 0 ≤ x1 then (if x1 < (x0.length : Int) then (if x8 < (rd x0 x1) then ((spec_ListMore.f k x0 x8 x1).bind fun t126 => (if t126 = true then (if x7.size + x121005.size ≤ 9223372036854775807 then (laws_FnPartPrefix.l0 k x0 x1 (x7 ++ x121005) (wrap64 (x8 + 1)) x121000 x121001 x121002 x121003 x121004 x121005 x121006 x121007 x121008) else (none)) else ((spec_Times.f k (⟨#[32]⟩ : ByteArray) (x121005.size : Int)).bind fun t127 => (if x7.size + t127.size ≤ 9223372036854775807 then (laws_FnPartPrefix.l0 k x0 x1 (x7 ++ t127) (wrap64 (x8 + 1)) x121000 x121001 x121002 x121003 x121004 x121005 x121006 x121007 x121008) else (none))))) else ((impl_ListPrefix.f x0 x1 x121000 x121001 x121002 x121003 x121004 x121005 x121006 x121007 x121008).bind fun t125 => (some (t125.toList == x7.toList)))) else (none)) else (none)
end
def laws_FnPartPrefix.f (k : Nat) (l0 : List Int) (a1 : Int) (a2_0 : Int) (a2_1 : ByteArray) (a2_2 : ByteArray) (a2_3 : ByteArray) (a2_4 : ByteArray) (a2_5 : ByteArray) (a2_6 : ByteArray) (a2_7 : ByteArray) (a2_8 : ByteArray) : Option (Bool) := if (l0.length : Int) > 2147483647 then (laws_FnPartPrefix.j0 k l0 a1 true a2_0 a2_1 a2_2 a2_3 a2_4 a2_5 a2_6 a2_7 a2_8) else ((laws_zzFits3.f a2_0 a2_1 a2_2 a2_3 a2_4 a2_5 a2_6 a2_7 a2_8).bind fun t121 => (laws_FnPartPrefix.j0 k l0 a1 (!t121) a2_0 a2_1 a2_2 a2_3 a2_4 a2_5 a2_6 a2_7 a2_8))
theorem laws_FnPartPrefix.mono_l : ∀ k, (∀ y0 y1 y2 y3 y4 y5 y6 y7 y8 y9 y10 y11, LeO (laws_FnPartPrefix.j0 k y0 y1 y2 y3 y4 y5 y6 y7 y8 y9 y10 y11) (laws_FnPartPrefix.j0 (k + 1) y0 y1 y2 y3 y4 y5 y6 y7 y8 y9 y10 y11)) ∧ (∀ y0 y1 y2 y3 y4 y5 y6 y7 y8 y9 y10 y11, LeO (laws_FnPartPrefix.j1 k y0 y1 y2 y3 y4 y5 y6 y7 y8 y9 y10 y11) (laws_FnPartPrefix.j1 (k + 1) y0 y1 y2 y3 y4 y5 y6 y7 y8 y9 y10 y11)) ∧ (∀ y0 y1 y2 y3 y4 y5 y6 y7 y8 y9 y10 y11 y12, LeO (laws_FnPartPrefix.l0 k y0 y1 y2 y3 y4 y5 y6 y7 y8 y9 y10 y11 y12) (laws_FnPartPrefix.l0 (k + 1) y0 y1 y2 y3 y4 y5 y6 y7 y8 y9 y10 y11 y12))
  | 0 => ⟨fun _ _ _ _ _ _ _ _ _ _ _ _ r h => by simp [laws_FnPartPrefix.j0] at h, fun _ _ _ _ _ _ _ _ _ _ _ _ r h => by simp [laws_FnPartPrefix.j1] at h, fun _ _ _ _ _ _ _ _ _ _ _ _ _ r h => by simp [laws_FnPartPrefix.l0] at h⟩
  | k + 1 => by
    obtain ⟨ih0, ih1, ih2⟩ := laws_FnPartPrefix.mono_l k
    refine ⟨?_, ?_, ?_⟩
    · intro y0 y1 y2 y3 y4 y5 y6 y7 y8 y9 y10 y11
      unfold laws_FnPartPrefix.j0
      repeat' first
      | (with_reducible exact ih0 _ _ _ _ _ _ _ _ _ _ _ _)
      | (with_reducible exact ih1 _ _ _ _ _ _ _ _ _ _ _ _)
      | (with_reducible exact ih2 _ _ _ _ _ _ _ _ _ _ _ _ _)
      | (with_reducible exact laws_fits.mono _ _ _ _ _)
      | (with_reducible exact spec_ListMore.mono _ _ _ _)
      | (with_reducible exact spec_Single.mono _ _)
      | (with_reducible exact spec_Times.mono _ _ _)
      | (with_reducible exact LeO.refl _)
      | (with_reducible exact LeO.none _)
      | (with_reducible refine LeO.ite ?_ ?_)
      | (with_reducible refine LeO.bind ?_ (fun _ => ?_))
      | exact ih0 _ _ _ _ _ _ _ _ _ _ _ _
      | exact ih1 _ _ _ _ _ _ _ _ _ _ _ _
      | exact ih2 _ _ _ _ _ _ _ _ _ _ _ _ _
      | exact laws_fits.mono _ _ _ _ _
      | exact spec_ListMore.mono _ _ _ _
      | exact spec_Single.mono _ _
      | exact spec_Times.mono _ _ _
      | exact LeO.none _
      | refine LeO.ite ?_ ?_
      | refine LeO.bind ?_ (fun _ => ?_)
    · intro y0 y1 y2 y3 y4 y5 y6 y7 y8 y9 y10 y11
      unfold laws_FnPartPrefix.j1
      repeat' first
      | (with_reducible exact ih0 _ _ _ _ _ _ _ _ _ _ _ _)
      | (with_reducible exact ih1 _ _ _ _ _ _ _ _ _ _ _ _)
      | (with_reducible exact ih2 _ _ _ _ _ _ _ _ _ _ _ _ _)
      | (with_reducible exact laws_fits.mono _ _ _ _ _)
      | (with_reducible exact spec_ListMore.mono _ _ _ _)
      | (with_reducible exact spec_Single.mono _ _)
      | (with_reducible exact spec_Times.mono _ _ _)
      | (with_reducible exact LeO.refl _)
      | (with_reducible exact LeO.none _)
      | (with_reducible refine LeO.ite ?_ ?_)
      | (with_reducible refine LeO.bind ?_ (fun _ => ?_))
      | exact ih0 _ _ _ _ _ _ _ _ _ _ _ _
      | exact ih1 _ _ _ _ _ _ _ _ _ _ _ _
      | exact ih2 _ _ _ _ _ _ _ _ _ _ _ _ _
      | exact laws_fits.mono _ _ _ _ _
      | exact spec_ListMore.mono _ _ _ _
      | exact spec_Single.mono _ _
      | exact spec_Times.mono _ _ _
      | exact LeO.none _
      | refine LeO.ite ?_ ?_
      | refine LeO.bind ?_ (fun _ => ?_)
    · intro y0 y1 y2 y3 y4 y5 y6 y7 y8 y9 y10 y11 y12
      unfold laws_FnPartPrefix.l0
      repeat' first
      | (with_reducible exact ih0 _ _ _ _ _ _ _ _ _ _ _ _)
      | (with_reducible exact ih1 _ _ _ _ _ _ _ _ _ _ _ _)
      | (with_reducible exact ih2 _ _ _ _ _ _ _ _ _ _ _ _ _)
      | (with_reducible exact laws_fits.mono _ _ _ _ _)
      | (with_reducible exact spec_ListMore.mono _ _ _ _)
      | (with_reducible exact spec_Single.mono _ _)
      | (with_reducible exact spec_Times.mono _ _ _)
      | (with_reducible exact LeO.refl _)
      | (with_reducible exact LeO.none _)
      | (with_reducible refine LeO.ite ?_ ?_)
      | (with_reducible refine LeO.bind ?_ (fun _ => ?_))
      | exact ih0 _ _ _ _ _ _ _ _ _ _ _ _
      | exact ih1 _ _ _ _ _ _ _ _ _ _ _ _
      | exact ih2 _ _ _ _ _ _ _ _ _ _ _ _ _
      | exact laws_fits.mono _ _ _ _ _
      | exact spec_ListMore.mono _ _ _ _
      | exact spec_Single.mono _ _
      | exact spec_Times.mono _ _ _
      | exact LeO.none _
      | refine LeO.ite ?_ ?_
      | refine LeO.bind ?_ (fun _ => ?_)
theorem laws_FnPartPrefix.mono : ∀ a0 a1 a2 a3 a4 a5 a6 a7 a8 a9 a10 k, LeO (laws_FnPartPrefix.f k a0 a1 a2 a3 a4 a5 a6 a7 a8 a9 a10) (laws_FnPartPrefix.f (k + 1) a0 a1 a2 a3 a4 a5 a6 a7 a8 a9 a10) := by
  intro a0 a1 a2 a3 a4 a5 a6 a7 a8 a9 a10 k
  obtain ⟨ih0, ih1, ih2⟩ := laws_FnPartPrefix.mono_l k
  unfold laws_FnPartPrefix.f
  repeat' first
      | (with_reducible exact ih0 _ _ _ _ _ _ _ _ _ _ _ _)
      | (with_reducible exact ih1 _ _ _ _ _ _ _ _ _ _ _ _)
      | (with_reducible exact ih2 _ _ _ _ _ _ _ _ _ _ _ _ _)
      | (with_reducible exact laws_fits.mono _ _ _ _ _)
      | (with_reducible exact spec_ListMore.mono _ _ _ _)
      | (with_reducible exact spec_Single.mono _ _)
      | (with_reducible exact spec_Times.mono _ _ _)
      | (with_reducible exact LeO.refl _)
      | (with_reducible exact LeO.none _)
      | (with_reducible refine LeO.ite ?_ ?_)
      | (with_reducible refine LeO.bind ?_ (fun _ => ?_))
      | exact ih0 _ _ _ _ _ _ _ _ _ _ _ _
      | exact ih1 _ _ _ _ _ _ _ _ _ _ _ _
      | exact ih2 _ _ _ _ _ _ _ _ _ _ _ _ _
      | exact laws_fits.mono _ _ _ _ _
      | exact spec_ListMore.mono _ _ _ _
      | exact spec_Single.mono _ _
      | exact spec_Times.mono _ _ _
      | exact LeO.none _
      | refine LeO.ite ?_ ?_
      | refine LeO.bind ?_ (fun _ => ?_)
set_option maxHeartbeats 8000000 in
set_option maxRecDepth 100000 in
theorem laws_FnPartPrefix.calls (k : Nat) (A0 : Option Addr) (c0 : Nat) (l0 : List Int) (a1 : Int) (a2_0 : Int) (a2_1 : ByteArray) (a2_2 : ByteArray) (a2_3 : ByteArray) (a2_4 : ByteArray) (a2_5 : ByteArray) (a2_6 : ByteArray) (a2_7 : ByteArray) (a2_8 : ByteArray) (r : Bool) (w : World) (hr0 : Kd.C (Kd.int .i64) w A0 l0.length l0) (hc0 : l0.length ≤ c0) (h : laws_FnPartPrefix.f k l0 a1 a2_0 a2_1 a2_2 a2_3 a2_4 a2_5 a2_6 a2_7 a2_8 = some r) :
    Calls Try.prog 3 #[.slice A0 l0.length c0, .int .i64 a1, .agg #[.int .i64 a2_0, .string a2_1, .string a2_2, .string a2_3, .string a2_4, .string a2_5, .string a2_6, .string a2_7, .string a2_8]] w fun e w' => e = .returned (.bool r) ∧ Below w.heap.size w w' := by
  have hu24 := Try.underlying24
  have HR0 := Aside0.mk hr0
  have HC0 := Aside0.mk hc0
  clear hr0 hc0
  have HB := Aside0.mk (Below.refl w.heap.size w)
  have H : (if (l0.length : Int) > 2147483647 then (laws_FnPartPrefix.j0 k l0 a1 true a2_0 a2_1 a2_2 a2_3 a2_4 a2_5 a2_6 a2_7 a2_8) else ((laws_zzFits3.f a2_0 a2_1 a2_2 a2_3 a2_4 a2_5 a2_6 a2_7 a2_8).bind fun t121 => (laws_FnPartPrefix.j0 k l0 a1 (!t121) a2_0 a2_1 a2_2 a2_3 a2_4 a2_5 a2_6 a2_7 a2_8))) = some r := h
  clear h
  have HC4 := Aside0.mk H
  clear H
  go_enter Try.func3, Try.ntmps3
  go_upto_region 1 with (first | ((with_reducible refine gate_dst (N := 5) rfl ?_); (try (refine gate_guard (by rfl) ?_; dsimp only)); refine box_event ?hg (N := 5) ?hd (cs := #[.int .i64 a2_0, .string a2_1, .string a2_2, .string a2_3, .string a2_4, .string a2_5, .string a2_6, .string a2_7, .string a2_8]) (t := 24) ?hr ?_; (case hd => rfl); (case hg => rfl); (case hr => first | (go_simp; done) | (go_simp; rfl)); intro gb120 hg w5 hbox hb; have n0_ := Aside0.mk (below_step (by repeat (first | (with_reducible first | exact HB.out | apply below_alloc | apply pw_below_drewN | apply below_drew1) | exact HB.out)) hb); have n1_ := Aside0.mk (hbox); have n2_ := Aside0.mk ((by rw [hg]; exact (below_size (by repeat (first | (with_reducible first | exact HB.out | apply below_alloc | apply pw_below_drewN | apply below_drew1) | exact HB.out))) : w.heap.size ≤ gb120)); have n3_ := Aside0.mk ((by rw [hg]; exact (below_size (by repeat (first | (with_reducible first | exact HB.out | apply below_alloc | apply pw_below_drewN | apply below_drew1) | exact HB.out))) : w.heap.size ≤ gb120)); clear HB; have HB := n0_; have BK120 := n1_; have GW120 := n2_; have GE120 := n3_; clear n0_ n1_ n2_ n3_; clear hb hbox hg))
  (try simp only [Act.put, List.setIfInBounds_toArray, List.set_cons_zero, List.set_cons_succ])
  go_cut [16] (fun v16 wc => ∃ (kq : Nat) (x16_3 : Bool), v16 = .bool x16_3 ∧ Aside0 (laws_FnPartPrefix.j0 kq l0 a1 x16_3 a2_0 a2_1 a2_2 a2_3 a2_4 a2_5 a2_6 a2_7 a2_8 = some r) ∧ Aside0 (kq ≤ k) ∧ Aside0 (wc.heap[gb120]? = some (.cells #[.int .i64 a2_0, .string a2_1, .string a2_2, .string a2_3, .string a2_4, .string a2_5, .string a2_6, .string a2_7, .string a2_8] 24 (0, 0))) ∧ Aside0 (Below w.heap.size w wc))
  case first =>
    have H := HC4.out
    clear HC4
    by_cases c6 : (l0.length : Int) > 2147483647
    · rw [if_pos c6] at H
      have c6b0 : decide (2147483647 < (l0.length : Int)) = true := decide_eq_true c6
      have c6b1 : decide (2147483647 < l0.length) = true := decide_eq_true (by omega)
      clear c6
      (first | rw [c6b0] | (simp only [i64_w, i32_w]; rw [c6b0]) | skip)
      have H' := Aside0.mk H
      clear H
      go_wp2
      go_meet
      case rel => exact ⟨_, (true), (by first | rfl | (simp; done) | (simp [*]; done)), H', ⟨by first | omega | exact Nat.le_refl _⟩, ⟨by (with_reducible repeat (first | refine blk_drewN ?_ _ | refine blk_drew ?_ | refine blk_alloc ?_ _)); exact BK120.out⟩, ⟨by repeat (first | (with_reducible first | exact HB.out | apply below_alloc | apply pw_below_drewN | apply below_drew1 | refine below_set ?_ GE120.out) | exact HB.out)⟩⟩
    · rw [if_neg c6] at H
      have c6b0 : decide (2147483647 < (l0.length : Int)) = false := decide_eq_false c6
      have c6b1 : decide (2147483647 < l0.length) = false := decide_eq_false (by omega)
      clear c6
      (first | rw [c6b0] | (simp only [i64_w, i32_w]; rw [c6b0]) | skip)
      replace H := Option.bind_eq_some_iff.mp H
      obtain ⟨t121, A70, H⟩ := H
      replace H : (laws_FnPartPrefix.j0 k l0 a1 (!t121) a2_0 a2_1 a2_2 a2_3 a2_4 a2_5 a2_6 a2_7 a2_8) = some r := H
      have A7 := Aside0.mk A70
      clear A70
      have H' := Aside0.mk H
      clear H
      have hcz8_0 : w5.cell? ⟨gb120, 0, none⟩ = some (.int .i64 a2_0) := (blk_cell BK120.out 0).trans rfl
      have hcz8_1 : w5.cell? ⟨gb120, 1, none⟩ = some (.string a2_1) := (blk_cell BK120.out 1).trans rfl
      have hcz8_2 : w5.cell? ⟨gb120, 2, none⟩ = some (.string a2_2) := (blk_cell BK120.out 2).trans rfl
      have hcz8_3 : w5.cell? ⟨gb120, 3, none⟩ = some (.string a2_3) := (blk_cell BK120.out 3).trans rfl
      have hcz8_4 : w5.cell? ⟨gb120, 4, none⟩ = some (.string a2_4) := (blk_cell BK120.out 4).trans rfl
      have hcz8_5 : w5.cell? ⟨gb120, 5, none⟩ = some (.string a2_5) := (blk_cell BK120.out 5).trans rfl
      have hcz8_6 : w5.cell? ⟨gb120, 6, none⟩ = some (.string a2_6) := (blk_cell BK120.out 6).trans rfl
      have hcz8_7 : w5.cell? ⟨gb120, 7, none⟩ = some (.string a2_7) := (blk_cell BK120.out 7).trans rfl
      have hcz8_8 : w5.cell? ⟨gb120, 8, none⟩ = some (.string a2_8) := (blk_cell BK120.out 8).trans rfl
      have hfz8_0 := blk_frozen BK120.out 0
      have hfz8_1 := blk_frozen BK120.out 1
      have hfz8_2 := blk_frozen BK120.out 2
      have hfz8_3 := blk_frozen BK120.out 3
      have hfz8_4 := blk_frozen BK120.out 4
      have hfz8_5 := blk_frozen BK120.out 5
      have hfz8_6 := blk_frozen BK120.out 6
      have hfz8_7 := blk_frozen BK120.out 7
      have hfz8_8 := blk_frozen BK120.out 8
      go_wp2_with (first | (go_at_call 5; (with_reducible refine (laws_zzFits3.calls a2_0 a2_1 a2_2 a2_3 a2_4 a2_5 a2_6 a2_7 a2_8 t121 _ A7.out).mono ?_); rintro e w9 ⟨rfl, hb⟩; have n0_ := Aside0.mk (blk_below (g := gb120) (o := .cells #[.int .i64 a2_0, .string a2_1, .string a2_2, .string a2_3, .string a2_4, .string a2_5, .string a2_6, .string a2_7, .string a2_8] 24 (0, 0)) (by (with_reducible repeat (first | refine blk_drewN ?_ _ | refine blk_drew ?_ | refine blk_alloc ?_ _)); exact BK120.out) hb); have n1_ := Aside0.mk (below_step (by repeat (first | (with_reducible first | exact HB.out | apply below_alloc | apply pw_below_drewN | apply below_drew1 | refine below_set ?_ GE120.out) | exact HB.out)) hb); clear BK120; clear HB; have BK120 := n0_; have HB := n1_; clear n0_ n1_; (try clear hb); (try clear hb2); (try clear hk); (try clear hi)))
      go_meet
      case rel => exact ⟨_, (!t121), (by first | rfl | (simp; done) | (simp [*]; done)), H', ⟨by first | omega | exact Nat.le_refl _⟩, ⟨by (with_reducible repeat (first | refine blk_drewN ?_ _ | refine blk_drew ?_ | refine blk_alloc ?_ _)); exact BK120.out⟩, ⟨by repeat (first | (with_reducible first | exact HB.out | apply below_alloc | apply pw_below_drewN | apply below_drew1 | refine below_set ?_ GE120.out) | exact HB.out)⟩⟩
  case rest =>
    clear HC4
    try clear p2
    try clear c3
    try clear c6
    try clear c6b0
    try clear c6b1
    try clear hcz8_0
    try clear hcz8_1
    try clear hcz8_2
    try clear hcz8_3
    try clear hcz8_4
    try clear hcz8_5
    try clear hcz8_6
    try clear hcz8_7
    try clear hcz8_8
    try clear hfz8_0
    try clear hfz8_1
    try clear hfz8_2
    try clear hfz8_3
    try clear hfz8_4
    try clear hfz8_5
    try clear hfz8_6
    try clear hfz8_7
    try clear hfz8_8
    obtain ⟨kq, x16_3, rfl, HA, HJ3, BK120, HB⟩ := hcut
    cases kq with
    | zero => exact absurd HA.out (by simp [laws_FnPartPrefix.j0])
    | succ kj3 =>
      have H := HA.out
      clear HA
      simp only [laws_FnPartPrefix.j0] at H
      by_cases c10 : x16_3 = true
      · subst c10
        have H1 : (some true) = some r := by rw [if_pos rfl] at H; exact H
        clear H
        have H := H1
        clear H1
        obtain rfl := Option.some.inj H
        go_wp2
        go_ret
        exact ⟨by first | rfl | (simp [errW_none, errW_some] <;> rfl) | (simp [*, errW_none, errW_some] <;> rfl), by repeat (first | (with_reducible first | exact HB.out | apply below_alloc | apply pw_below_drewN | apply below_drew1 | refine below_set ?_ GE120.out) | exact HB.out)⟩
      · replace c10 := Bool.eq_false_iff.mpr c10
        subst c10
        have H1 : ((laws_fits.f kj3 l0 60 0 20).bind fun t122 => (if t122 = true then (if a1 < 0 then (laws_FnPartPrefix.j1 kj3 l0 a1 true a2_0 a2_1 a2_2 a2_3 a2_4 a2_5 a2_6 a2_7 a2_8) else (if a1 ≥ (l0.length : Int) then (laws_FnPartPrefix.j1 kj3 l0 a1 true a2_0 a2_1 a2_2 a2_3 a2_4 a2_5 a2_6 a2_7 a2_8) else (if (wrap64 ((a2_5.size : Int) + (a2_8.size : Int))) > 60 then (laws_FnPartPrefix.j1 kj3 l0 a1 true a2_0 a2_1 a2_2 a2_3 a2_4 a2_5 a2_6 a2_7 a2_8) else ((spec_Single.f kj3 a2_5).bind fun t123 => (laws_FnPartPrefix.j1 kj3 l0 a1 (!t123) a2_0 a2_1 a2_2 a2_3 a2_4 a2_5 a2_6 a2_7 a2_8))))) else (laws_FnPartPrefix.j1 kj3 l0 a1 true a2_0 a2_1 a2_2 a2_3 a2_4 a2_5 a2_6 a2_7 a2_8))) = some r := by rw [if_neg (show ¬ (false = true) by decide)] at H; exact H
        clear H
        have H := H1
        clear H1
        have HC11 := Aside0.mk H
        clear H
        go_upto_region 3 with (fail)
        go_cut [45] (fun v45 wc => ∃ (kq : Nat) (x45_10 : Bool), v45 = .bool x45_10 ∧ Aside0 (laws_FnPartPrefix.j1 kq l0 a1 x45_10 a2_0 a2_1 a2_2 a2_3 a2_4 a2_5 a2_6 a2_7 a2_8 = some r) ∧ Aside0 (kq ≤ kj3) ∧ Aside0 (wc.heap[gb120]? = some (.cells #[.int .i64 a2_0, .string a2_1, .string a2_2, .string a2_3, .string a2_4, .string a2_5, .string a2_6, .string a2_7, .string a2_8] 24 (0, 0))) ∧ Aside0 (Below w.heap.size w wc))
        case first =>
          have H := HC11.out
          clear HC11
          replace H := Option.bind_eq_some_iff.mp H
          obtain ⟨t122, A120, H⟩ := H
          replace H : (if t122 = true then (if a1 < 0 then (laws_FnPartPrefix.j1 kj3 l0 a1 true a2_0 a2_1 a2_2 a2_3 a2_4 a2_5 a2_6 a2_7 a2_8) else (if a1 ≥ (l0.length : Int) then (laws_FnPartPrefix.j1 kj3 l0 a1 true a2_0 a2_1 a2_2 a2_3 a2_4 a2_5 a2_6 a2_7 a2_8) else (if (wrap64 ((a2_5.size : Int) + (a2_8.size : Int))) > 60 then (laws_FnPartPrefix.j1 kj3 l0 a1 true a2_0 a2_1 a2_2 a2_3 a2_4 a2_5 a2_6 a2_7 a2_8) else ((spec_Single.f kj3 a2_5).bind fun t123 => (laws_FnPartPrefix.j1 kj3 l0 a1 (!t123) a2_0 a2_1 a2_2 a2_3 a2_4 a2_5 a2_6 a2_7 a2_8))))) else (laws_FnPartPrefix.j1 kj3 l0 a1 true a2_0 a2_1 a2_2 a2_3 a2_4 a2_5 a2_6 a2_7 a2_8)) = some r := H
          have A12 := Aside0.mk A120
          clear A120
          by_cases c13 : t122 = true
          · subst c13
            have H1 : (if a1 < 0 then (laws_FnPartPrefix.j1 kj3 l0 a1 true a2_0 a2_1 a2_2 a2_3 a2_4 a2_5 a2_6 a2_7 a2_8) else (if a1 ≥ (l0.length : Int) then (laws_FnPartPrefix.j1 kj3 l0 a1 true a2_0 a2_1 a2_2 a2_3 a2_4 a2_5 a2_6 a2_7 a2_8) else (if (wrap64 ((a2_5.size : Int) + (a2_8.size : Int))) > 60 then (laws_FnPartPrefix.j1 kj3 l0 a1 true a2_0 a2_1 a2_2 a2_3 a2_4 a2_5 a2_6 a2_7 a2_8) else ((spec_Single.f kj3 a2_5).bind fun t123 => (laws_FnPartPrefix.j1 kj3 l0 a1 (!t123) a2_0 a2_1 a2_2 a2_3 a2_4 a2_5 a2_6 a2_7 a2_8))))) = some r := by rw [if_pos rfl] at H; exact H
            clear H
            have H := H1
            clear H1
            by_cases c14 : a1 < 0
            · rw [if_pos c14] at H
              have c14b0 : decide (a1 < 0) = true := decide_eq_true c14
              clear c14
              (first | rw [c14b0] | (simp only [i64_w, i32_w]; rw [c14b0]) | skip)
              have H' := Aside0.mk H
              clear H
              go_wp2_with (first | ((with_reducible refine gate_callee (f := 6) rfl ?_); refine goesL_ (some 18) rfl rfl Try.func6 (by kernel_rfl) rfl #[.slice A0 l0.length c0, .int .i64 60, .int .i64 0, .int .i64 20] rfl (by (try simp only [List.map_toArray, List.map_cons, List.map_nil]); first | done | rfl | (simp only [List.length_drop, List.length_take]; rfl)) ?_; (with_reducible refine (laws_fits.calls kj3 _ _ l0 60 0 20 true _ ?side1 ?side2 A12.out).mono ?_); (case side1 => repeat (first | exact (Kd.C_below HR0.out HB.out) | (with_reducible refine Kd.C_alloc ?_ _) | (with_reducible refine Kd.C_drewN ?_ _) | (with_reducible refine Kd.C_drew ?_))); (case side2 => exact HC0.out); rintro e w' ⟨rfl, ⟨nd, rfl⟩⟩; refine ⟨_, rfl, ?_⟩))
              go_meet
              case rel => exact ⟨_, (true), (by first | rfl | (simp; done) | (simp [*]; done)), H', ⟨by have := HJ3.out; first | omega | exact Nat.le_refl _⟩, ⟨by (with_reducible repeat (first | refine blk_drewN ?_ _ | refine blk_drew ?_ | refine blk_alloc ?_ _)); exact BK120.out⟩, ⟨by repeat (first | (with_reducible first | exact HB.out | apply below_alloc | apply pw_below_drewN | apply below_drew1 | refine below_set ?_ GE120.out) | exact HB.out)⟩⟩
            · rw [if_neg c14] at H
              have c14b0 : decide (a1 < 0) = false := decide_eq_false c14
              clear c14
              (first | rw [c14b0] | (simp only [i64_w, i32_w]; rw [c14b0]) | skip)
              by_cases c15 : a1 ≥ (l0.length : Int)
              · rw [if_pos c15] at H
                have c15b0 : decide ((l0.length : Int) ≤ a1) = true := decide_eq_true c15
                clear c15
                have H' := Aside0.mk H
                clear H
                go_wp2_with (first | ((with_reducible refine gate_callee (f := 6) rfl ?_); refine goesL_ (some 18) rfl rfl Try.func6 (by kernel_rfl) rfl #[.slice A0 l0.length c0, .int .i64 60, .int .i64 0, .int .i64 20] rfl (by (try simp only [List.map_toArray, List.map_cons, List.map_nil]); first | done | rfl | (simp only [List.length_drop, List.length_take]; rfl)) ?_; (with_reducible refine (laws_fits.calls kj3 _ _ l0 60 0 20 true _ ?side1 ?side2 A12.out).mono ?_); (case side1 => repeat (first | exact (Kd.C_below HR0.out HB.out) | (with_reducible refine Kd.C_alloc ?_ _) | (with_reducible refine Kd.C_drewN ?_ _) | (with_reducible refine Kd.C_drew ?_))); (case side2 => exact HC0.out); rintro e w' ⟨rfl, ⟨nd, rfl⟩⟩; refine ⟨_, rfl, ?_⟩))
                go_meet
                case rel => exact ⟨_, (true), (by first | rfl | (simp; done) | (simp [*]; done)), H', ⟨by have := HJ3.out; first | omega | exact Nat.le_refl _⟩, ⟨by (with_reducible repeat (first | refine blk_drewN ?_ _ | refine blk_drew ?_ | refine blk_alloc ?_ _)); exact BK120.out⟩, ⟨by repeat (first | (with_reducible first | exact HB.out | apply below_alloc | apply pw_below_drewN | apply below_drew1 | refine below_set ?_ GE120.out) | exact HB.out)⟩⟩
              · rw [if_neg c15] at H
                have c15b0 : decide ((l0.length : Int) ≤ a1) = false := decide_eq_false c15
                clear c15
                by_cases c16 : (wrap64 ((a2_5.size : Int) + (a2_8.size : Int))) > 60
                · rw [if_pos c16] at H
                  have c16b0 : decide (60 < (wrap64 ((a2_5.size : Int) + (a2_8.size : Int)))) = true := decide_eq_true c16
                  clear c16
                  have H' := Aside0.mk H
                  clear H
                  go_wp2_with (first | ((with_reducible refine gate_callee (f := 6) rfl ?_); refine goesL_ (some 18) rfl rfl Try.func6 (by kernel_rfl) rfl #[.slice A0 l0.length c0, .int .i64 60, .int .i64 0, .int .i64 20] rfl (by (try simp only [List.map_toArray, List.map_cons, List.map_nil]); first | done | rfl | (simp only [List.length_drop, List.length_take]; rfl)) ?_; (with_reducible refine (laws_fits.calls kj3 _ _ l0 60 0 20 true _ ?side1 ?side2 A12.out).mono ?_); (case side1 => repeat (first | exact (Kd.C_below HR0.out HB.out) | (with_reducible refine Kd.C_alloc ?_ _) | (with_reducible refine Kd.C_drewN ?_ _) | (with_reducible refine Kd.C_drew ?_))); (case side2 => exact HC0.out); rintro e w' ⟨rfl, ⟨nd, rfl⟩⟩; refine ⟨_, rfl, ?_⟩; have hcz17_0 : wc.cell? ⟨gb120, 0, none⟩ = some (.int .i64 a2_0) := (blk_cell BK120.out 0).trans rfl; have hcz17_1 : wc.cell? ⟨gb120, 1, none⟩ = some (.string a2_1) := (blk_cell BK120.out 1).trans rfl; have hcz17_2 : wc.cell? ⟨gb120, 2, none⟩ = some (.string a2_2) := (blk_cell BK120.out 2).trans rfl; have hcz17_3 : wc.cell? ⟨gb120, 3, none⟩ = some (.string a2_3) := (blk_cell BK120.out 3).trans rfl; have hcz17_4 : wc.cell? ⟨gb120, 4, none⟩ = some (.string a2_4) := (blk_cell BK120.out 4).trans rfl; have hcz17_5 : wc.cell? ⟨gb120, 5, none⟩ = some (.string a2_5) := (blk_cell BK120.out 5).trans rfl; have hcz17_6 : wc.cell? ⟨gb120, 6, none⟩ = some (.string a2_6) := (blk_cell BK120.out 6).trans rfl; have hcz17_7 : wc.cell? ⟨gb120, 7, none⟩ = some (.string a2_7) := (blk_cell BK120.out 7).trans rfl; have hcz17_8 : wc.cell? ⟨gb120, 8, none⟩ = some (.string a2_8) := (blk_cell BK120.out 8).trans rfl; have hfz17_0 := blk_frozen BK120.out 0; have hfz17_1 := blk_frozen BK120.out 1; have hfz17_2 := blk_frozen BK120.out 2; have hfz17_3 := blk_frozen BK120.out 3; have hfz17_4 := blk_frozen BK120.out 4; have hfz17_5 := blk_frozen BK120.out 5; have hfz17_6 := blk_frozen BK120.out 6; have hfz17_7 := blk_frozen BK120.out 7; have hfz17_8 := blk_frozen BK120.out 8))
                  go_meet
                  case rel => exact ⟨_, (true), (by first | rfl | (simp; done) | (simp [*]; done)), H', ⟨by have := HJ3.out; first | omega | exact Nat.le_refl _⟩, ⟨by (with_reducible repeat (first | refine blk_drewN ?_ _ | refine blk_drew ?_ | refine blk_alloc ?_ _)); exact BK120.out⟩, ⟨by repeat (first | (with_reducible first | exact HB.out | apply below_alloc | apply pw_below_drewN | apply below_drew1 | refine below_set ?_ GE120.out) | exact HB.out)⟩⟩
                · rw [if_neg c16] at H
                  have c16b0 : decide (60 < (wrap64 ((a2_5.size : Int) + (a2_8.size : Int)))) = false := decide_eq_false c16
                  clear c16
                  replace H := Option.bind_eq_some_iff.mp H
                  obtain ⟨t123, A180, H⟩ := H
                  replace H : (laws_FnPartPrefix.j1 kj3 l0 a1 (!t123) a2_0 a2_1 a2_2 a2_3 a2_4 a2_5 a2_6 a2_7 a2_8) = some r := H
                  have A18 := Aside0.mk A180
                  clear A180
                  have H' := Aside0.mk H
                  clear H
                  go_wp2_with (first | ((with_reducible refine gate_callee (f := 6) rfl ?_); refine goesL_ (some 18) rfl rfl Try.func6 (by kernel_rfl) rfl #[.slice A0 l0.length c0, .int .i64 60, .int .i64 0, .int .i64 20] rfl (by (try simp only [List.map_toArray, List.map_cons, List.map_nil]); first | done | rfl | (simp only [List.length_drop, List.length_take]; rfl)) ?_; (with_reducible refine (laws_fits.calls kj3 _ _ l0 60 0 20 true _ ?side1 ?side2 A12.out).mono ?_); (case side1 => repeat (first | exact (Kd.C_below HR0.out HB.out) | (with_reducible refine Kd.C_alloc ?_ _) | (with_reducible refine Kd.C_drewN ?_ _) | (with_reducible refine Kd.C_drew ?_))); (case side2 => exact HC0.out); rintro e w' ⟨rfl, ⟨nd, rfl⟩⟩; refine ⟨_, rfl, ?_⟩; have hcz19_0 : wc.cell? ⟨gb120, 0, none⟩ = some (.int .i64 a2_0) := (blk_cell BK120.out 0).trans rfl; have hcz19_1 : wc.cell? ⟨gb120, 1, none⟩ = some (.string a2_1) := (blk_cell BK120.out 1).trans rfl; have hcz19_2 : wc.cell? ⟨gb120, 2, none⟩ = some (.string a2_2) := (blk_cell BK120.out 2).trans rfl; have hcz19_3 : wc.cell? ⟨gb120, 3, none⟩ = some (.string a2_3) := (blk_cell BK120.out 3).trans rfl; have hcz19_4 : wc.cell? ⟨gb120, 4, none⟩ = some (.string a2_4) := (blk_cell BK120.out 4).trans rfl; have hcz19_5 : wc.cell? ⟨gb120, 5, none⟩ = some (.string a2_5) := (blk_cell BK120.out 5).trans rfl; have hcz19_6 : wc.cell? ⟨gb120, 6, none⟩ = some (.string a2_6) := (blk_cell BK120.out 6).trans rfl; have hcz19_7 : wc.cell? ⟨gb120, 7, none⟩ = some (.string a2_7) := (blk_cell BK120.out 7).trans rfl; have hcz19_8 : wc.cell? ⟨gb120, 8, none⟩ = some (.string a2_8) := (blk_cell BK120.out 8).trans rfl; have hfz19_0 := blk_frozen BK120.out 0; have hfz19_1 := blk_frozen BK120.out 1; have hfz19_2 := blk_frozen BK120.out 2; have hfz19_3 := blk_frozen BK120.out 3; have hfz19_4 := blk_frozen BK120.out 4; have hfz19_5 := blk_frozen BK120.out 5; have hfz19_6 := blk_frozen BK120.out 6; have hfz19_7 := blk_frozen BK120.out 7; have hfz19_8 := blk_frozen BK120.out 8) | (go_at_call 7; (with_reducible refine (spec_Single.calls kj3 a2_5 t123 _ A18.out).mono ?_); rintro e w' ⟨rfl, ⟨nd, rfl⟩⟩))
                  go_meet
                  case rel => exact ⟨_, (!t123), (by first | rfl | (simp; done) | (simp [*]; done)), H', ⟨by have := HJ3.out; first | omega | exact Nat.le_refl _⟩, ⟨by (with_reducible repeat (first | refine blk_drewN ?_ _ | refine blk_drew ?_ | refine blk_alloc ?_ _)); exact BK120.out⟩, ⟨by repeat (first | (with_reducible first | exact HB.out | apply below_alloc | apply pw_below_drewN | apply below_drew1 | refine below_set ?_ GE120.out) | exact HB.out)⟩⟩
          · replace c13 := Bool.eq_false_iff.mpr c13
            subst c13
            have H1 : (laws_FnPartPrefix.j1 kj3 l0 a1 true a2_0 a2_1 a2_2 a2_3 a2_4 a2_5 a2_6 a2_7 a2_8) = some r := by rw [if_neg (show ¬ (false = true) by decide)] at H; exact H
            clear H
            have H := H1
            clear H1
            have H' := Aside0.mk H
            clear H
            go_wp2_with (first | ((with_reducible refine gate_callee (f := 6) rfl ?_); refine goesL_ (some 18) rfl rfl Try.func6 (by kernel_rfl) rfl #[.slice A0 l0.length c0, .int .i64 60, .int .i64 0, .int .i64 20] rfl (by (try simp only [List.map_toArray, List.map_cons, List.map_nil]); first | done | rfl | (simp only [List.length_drop, List.length_take]; rfl)) ?_; (with_reducible refine (laws_fits.calls kj3 _ _ l0 60 0 20 false _ ?side1 ?side2 A12.out).mono ?_); (case side1 => repeat (first | exact (Kd.C_below HR0.out HB.out) | (with_reducible refine Kd.C_alloc ?_ _) | (with_reducible refine Kd.C_drewN ?_ _) | (with_reducible refine Kd.C_drew ?_))); (case side2 => exact HC0.out); rintro e w' ⟨rfl, ⟨nd, rfl⟩⟩; refine ⟨_, rfl, ?_⟩))
            go_meet
            case rel => exact ⟨_, (true), (by first | rfl | (simp; done) | (simp [*]; done)), H', ⟨by have := HJ3.out; first | omega | exact Nat.le_refl _⟩, ⟨by (with_reducible repeat (first | refine blk_drewN ?_ _ | refine blk_drew ?_ | refine blk_alloc ?_ _)); exact BK120.out⟩, ⟨by repeat (first | (with_reducible first | exact HB.out | apply below_alloc | apply pw_below_drewN | apply below_drew1 | refine below_set ?_ GE120.out) | exact HB.out)⟩⟩
        case rest =>
          clear HC11
          try clear c1
          try clear p2
          try clear c3
          try clear c6
          try clear c6b0
          try clear c6b1
          try clear p6
          try clear c10
          try clear c13
          try clear c14
          try clear c14b0
          try clear c15
          try clear c15b0
          try clear c16
          try clear c16b0
          try clear hcz17_0
          try clear hcz17_1
          try clear hcz17_2
          try clear hcz17_3
          try clear hcz17_4
          try clear hcz17_5
          try clear hcz17_6
          try clear hcz17_7
          try clear hcz17_8
          try clear hcz19_0
          try clear hcz19_1
          try clear hcz19_2
          try clear hcz19_3
          try clear hcz19_4
          try clear hcz19_5
          try clear hcz19_6
          try clear hcz19_7
          try clear hcz19_8
          try clear hcz8_0
          try clear hcz8_1
          try clear hcz8_2
          try clear hcz8_3
          try clear hcz8_4
          try clear hcz8_5
          try clear hcz8_6
          try clear hcz8_7
          try clear hcz8_8
          try clear hfz17_0
          try clear hfz17_1
          try clear hfz17_2
          try clear hfz17_3
          try clear hfz17_4
          try clear hfz17_5
          try clear hfz17_6
          try clear hfz17_7
          try clear hfz17_8
          try clear hfz19_0
          try clear hfz19_1
          try clear hfz19_2
          try clear hfz19_3
          try clear hfz19_4
          try clear hfz19_5
          try clear hfz19_6
          try clear hfz19_7
          try clear hfz19_8
          try clear hfz8_0
          try clear hfz8_1
          try clear hfz8_2
          try clear hfz8_3
          try clear hfz8_4
          try clear hfz8_5
          try clear hfz8_6
          try clear hfz8_7
          try clear hfz8_8
          try clear p2
          obtain ⟨kq, x45_10, rfl, HA, HJ10, BK120, HB⟩ := hcut
          cases kq with
          | zero => exact absurd HA.out (by simp [laws_FnPartPrefix.j1])
          | succ kj10 =>
            have H := HA.out
            clear HA
            simp only [laws_FnPartPrefix.j1] at H
            by_cases c20 : x45_10 = true
            · subst c20
              have H1 : (some true) = some r := by rw [if_pos rfl] at H; exact H
              clear H
              have H := H1
              clear H1
              obtain rfl := Option.some.inj H
              go_wp2
              go_ret
              exact ⟨by first | rfl | (simp [errW_none, errW_some] <;> rfl) | (simp [*, errW_none, errW_some] <;> rfl), by repeat (first | (with_reducible first | exact HB.out | apply below_alloc | apply pw_below_drewN | apply below_drew1 | refine below_set ?_ GE120.out) | exact HB.out)⟩
            · replace c20 := Bool.eq_false_iff.mpr c20
              subst c20
              have H1 : (laws_FnPartPrefix.l0 kj10 l0 a1 a2_8 0 a2_0 a2_1 a2_2 a2_3 a2_4 a2_5 a2_6 a2_7 a2_8) = some r := by rw [if_neg (show ¬ (false = true) by decide)] at H; exact H
              clear H
              have H := H1
              clear H1
              have H' := Aside0.mk H
              clear H
              have hcz21_0 : wc.cell? ⟨gb120, 0, none⟩ = some (.int .i64 a2_0) := (blk_cell BK120.out 0).trans rfl
              have hcz21_1 : wc.cell? ⟨gb120, 1, none⟩ = some (.string a2_1) := (blk_cell BK120.out 1).trans rfl
              have hcz21_2 : wc.cell? ⟨gb120, 2, none⟩ = some (.string a2_2) := (blk_cell BK120.out 2).trans rfl
              have hcz21_3 : wc.cell? ⟨gb120, 3, none⟩ = some (.string a2_3) := (blk_cell BK120.out 3).trans rfl
              have hcz21_4 : wc.cell? ⟨gb120, 4, none⟩ = some (.string a2_4) := (blk_cell BK120.out 4).trans rfl
              have hcz21_5 : wc.cell? ⟨gb120, 5, none⟩ = some (.string a2_5) := (blk_cell BK120.out 5).trans rfl
              have hcz21_6 : wc.cell? ⟨gb120, 6, none⟩ = some (.string a2_6) := (blk_cell BK120.out 6).trans rfl
              have hcz21_7 : wc.cell? ⟨gb120, 7, none⟩ = some (.string a2_7) := (blk_cell BK120.out 7).trans rfl
              have hcz21_8 : wc.cell? ⟨gb120, 8, none⟩ = some (.string a2_8) := (blk_cell BK120.out 8).trans rfl
              have hfz21_0 := blk_frozen BK120.out 0
              have hfz21_1 := blk_frozen BK120.out 1
              have hfz21_2 := blk_frozen BK120.out 2
              have hfz21_3 := blk_frozen BK120.out 3
              have hfz21_4 := blk_frozen BK120.out 4
              have hfz21_5 := blk_frozen BK120.out 5
              have hfz21_6 := blk_frozen BK120.out 6
              have hfz21_7 := blk_frozen BK120.out 7
              have hfz21_8 := blk_frozen BK120.out 8
              go_wp2
              go_loopg [7, 8] kj10 (fun kq v7 v8 w' => ∃ (x7_3 : ByteArray) (x8_3 : Int), v7 = .string x7_3 ∧ v8 = .int .i64 x8_3 ∧ Aside0 (laws_FnPartPrefix.l0 kq l0 a1 x7_3 x8_3 a2_0 a2_1 a2_2 a2_3 a2_4 a2_5 a2_6 a2_7 a2_8 = some r) ∧ Aside0 (kq ≤ kj10) ∧ Aside0 (w'.heap[gb120]? = some (.cells #[.int .i64 a2_0, .string a2_1, .string a2_2, .string a2_3, .string a2_4, .string a2_5, .string a2_6, .string a2_7, .string a2_8] 24 (0, 0))) ∧ Aside0 (Below w.heap.size w w'))
              case atStart => exact ⟨(a2_8), (0), (by first | rfl | (simp; done) | (simp [*]; done)), (by first | rfl | (simp; done) | (simp [*]; done)), H', ⟨Nat.le_refl _⟩, ⟨by (with_reducible repeat (first | refine blk_drewN ?_ _ | refine blk_drew ?_ | refine blk_alloc ?_ _)); exact BK120.out⟩, ⟨by repeat (first | (with_reducible first | exact HB.out | apply below_alloc | apply pw_below_drewN | apply below_drew1 | refine below_set ?_ GE120.out) | exact HB.out)⟩⟩
              case round =>
                clear H'
                try clear c1
                try clear c2
                try clear p2
                try clear c3
                try clear c6
                try clear c6b0
                try clear c6b1
                try clear p6
                try clear c10
                try clear c13
                try clear c14
                try clear c14b0
                try clear c15
                try clear c15b0
                try clear c16
                try clear c16b0
                try clear c20
                try clear hcz17_0
                try clear hcz17_1
                try clear hcz17_2
                try clear hcz17_3
                try clear hcz17_4
                try clear hcz17_5
                try clear hcz17_6
                try clear hcz17_7
                try clear hcz17_8
                try clear hcz19_0
                try clear hcz19_1
                try clear hcz19_2
                try clear hcz19_3
                try clear hcz19_4
                try clear hcz19_5
                try clear hcz19_6
                try clear hcz19_7
                try clear hcz19_8
                try clear hcz21_0
                try clear hcz21_1
                try clear hcz21_2
                try clear hcz21_3
                try clear hcz21_4
                try clear hcz21_5
                try clear hcz21_6
                try clear hcz21_7
                try clear hcz21_8
                try clear hcz8_0
                try clear hcz8_1
                try clear hcz8_2
                try clear hcz8_3
                try clear hcz8_4
                try clear hcz8_5
                try clear hcz8_6
                try clear hcz8_7
                try clear hcz8_8
                try clear hfz17_0
                try clear hfz17_1
                try clear hfz17_2
                try clear hfz17_3
                try clear hfz17_4
                try clear hfz17_5
                try clear hfz17_6
                try clear hfz17_7
                try clear hfz17_8
                try clear hfz19_0
                try clear hfz19_1
                try clear hfz19_2
                try clear hfz19_3
                try clear hfz19_4
                try clear hfz19_5
                try clear hfz19_6
                try clear hfz19_7
                try clear hfz19_8
                try clear hfz21_0
                try clear hfz21_1
                try clear hfz21_2
                try clear hfz21_3
                try clear hfz21_4
                try clear hfz21_5
                try clear hfz21_6
                try clear hfz21_7
                try clear hfz21_8
                try clear hfz8_0
                try clear hfz8_1
                try clear hfz8_2
                try clear hfz8_3
                try clear hfz8_4
                try clear hfz8_5
                try clear hfz8_6
                try clear hfz8_7
                try clear hfz8_8
                try clear p2
                try clear p6
                obtain ⟨x7_3, x8_3, rfl, rfl, HA, HK3, BK120, HB⟩ := hrel
                cases gk with
                | zero => exact absurd HA.out (by simp [laws_FnPartPrefix.l0])
                | succ k3 =>
                  have H := HA.out
                  clear HA
                  simp only [laws_FnPartPrefix.l0] at H
                  by_cases c22 : 0 ≤ a1
                  · rw [if_pos c22] at H
                    have c22b0 : decide (0 ≤ a1) = true := decide_eq_true c22
                    clear c22
                    by_cases c23 : a1 < (l0.length : Int)
                    · rw [if_pos c23] at H
                      have c23b0 : decide (a1 < (l0.length : Int)) = true := decide_eq_true c23
                      clear c23
                      by_cases c24 : x8_3 < (rd l0 a1)
                      · rw [if_pos c24] at H
                        have c24b0 : decide (x8_3 < (rd l0 a1)) = true := decide_eq_true c24
                        clear c24
                        replace H := Option.bind_eq_some_iff.mp H
                        obtain ⟨t126, A250, H⟩ := H
                        replace H : (if t126 = true then (if x7_3.size + a2_5.size ≤ 9223372036854775807 then (laws_FnPartPrefix.l0 k3 l0 a1 (x7_3 ++ a2_5) (wrap64 (x8_3 + 1)) a2_0 a2_1 a2_2 a2_3 a2_4 a2_5 a2_6 a2_7 a2_8) else (none)) else ((spec_Times.f k3 (⟨#[32]⟩ : ByteArray) (a2_5.size : Int)).bind fun t127 => (if x7_3.size + t127.size ≤ 9223372036854775807 then (laws_FnPartPrefix.l0 k3 l0 a1 (x7_3 ++ t127) (wrap64 (x8_3 + 1)) a2_0 a2_1 a2_2 a2_3 a2_4 a2_5 a2_6 a2_7 a2_8) else (none)))) = some r := H
                        have A25 := Aside0.mk A250
                        clear A250
                        by_cases c26 : t126 = true
                        · subst c26
                          have H1 : (if x7_3.size + a2_5.size ≤ 9223372036854775807 then (laws_FnPartPrefix.l0 k3 l0 a1 (x7_3 ++ a2_5) (wrap64 (x8_3 + 1)) a2_0 a2_1 a2_2 a2_3 a2_4 a2_5 a2_6 a2_7 a2_8) else (none)) = some r := by rw [if_pos rfl] at H; exact H
                          clear H
                          have H := H1
                          clear H1
                          by_cases c27 : x7_3.size + a2_5.size ≤ 9223372036854775807
                          · rw [if_pos c27] at H
                            have c27b0 := eq_true c27
                            have c27b1 : decide (x7_3.size + a2_5.size ≤ 9223372036854775807) = true := decide_eq_true c27
                            try have c27b2 : (9223372036854775807 < x7_3.size + a2_5.size) = False := eq_false (Nat.not_lt.2 c27)
                            have H' := Aside0.mk H
                            clear H
                            have p124 : 0 ≤ (a1 : Int) := of_decide_eq_true (by first | (with_reducible assumption) | assumption)
                            have q124 : a1 < (l0.length : Int) := of_decide_eq_true (by first | (with_reducible assumption) | assumption)
                            obtain ⟨ad124, e124, hx124_0⟩ := Kd.at_int HR0.out a1 p124 q124
                            cases e124
                            replace hx124_0 := (HB.out.cell (World.block_lt_of_cell? w _ hx124_0)).trans hx124_0
                            (try simp only [Go.IntWalk.toNatUp] at hx124_0)
                            replace p124 := eq_true p124
                            replace q124 := eq_true q124
                            go_wp2_with (first | ((with_reducible refine gate_callee (f := 8) rfl ?_); refine goesL_ (some 59) rfl rfl Try.func8 (by kernel_rfl) rfl #[.slice (some ad124) l0.length c0, .int .i64 x8_3, .int .i64 a1] rfl (by (try simp only [List.map_toArray, List.map_cons, List.map_nil]); first | done | rfl | (simp only [List.length_drop, List.length_take]; rfl)) ?_; (with_reducible refine (spec_ListMore.calls k3 _ _ l0 x8_3 a1 true _ ?side1 ?side2 A25.out).mono ?_); (case side1 => repeat (first | exact (Kd.C_below HR0.out HB.out) | (with_reducible refine Kd.C_alloc ?_ _) | (with_reducible refine Kd.C_drewN ?_ _) | (with_reducible refine Kd.C_drew ?_))); (case side2 => exact HC0.out); rintro e w' ⟨rfl, ⟨nd, rfl⟩⟩; refine ⟨_, rfl, ?_⟩; have hcz28_0 : wr.cell? ⟨gb120, 0, none⟩ = some (.int .i64 a2_0) := (blk_cell BK120.out 0).trans rfl; have hcz28_1 : wr.cell? ⟨gb120, 1, none⟩ = some (.string a2_1) := (blk_cell BK120.out 1).trans rfl; have hcz28_2 : wr.cell? ⟨gb120, 2, none⟩ = some (.string a2_2) := (blk_cell BK120.out 2).trans rfl; have hcz28_3 : wr.cell? ⟨gb120, 3, none⟩ = some (.string a2_3) := (blk_cell BK120.out 3).trans rfl; have hcz28_4 : wr.cell? ⟨gb120, 4, none⟩ = some (.string a2_4) := (blk_cell BK120.out 4).trans rfl; have hcz28_5 : wr.cell? ⟨gb120, 5, none⟩ = some (.string a2_5) := (blk_cell BK120.out 5).trans rfl; have hcz28_6 : wr.cell? ⟨gb120, 6, none⟩ = some (.string a2_6) := (blk_cell BK120.out 6).trans rfl; have hcz28_7 : wr.cell? ⟨gb120, 7, none⟩ = some (.string a2_7) := (blk_cell BK120.out 7).trans rfl; have hcz28_8 : wr.cell? ⟨gb120, 8, none⟩ = some (.string a2_8) := (blk_cell BK120.out 8).trans rfl; have hfz28_0 := blk_frozen BK120.out 0; have hfz28_1 := blk_frozen BK120.out 1; have hfz28_2 := blk_frozen BK120.out 2; have hfz28_3 := blk_frozen BK120.out 3; have hfz28_4 := blk_frozen BK120.out 4; have hfz28_5 := blk_frozen BK120.out 5; have hfz28_6 := blk_frozen BK120.out 6; have hfz28_7 := blk_frozen BK120.out 7; have hfz28_8 := blk_frozen BK120.out 8))
                            go_roundg k3
                            case measure => have := HJ3.out; have := HJ10.out; have := HK3.out; omega
                            case rel => exact ⟨(x7_3 ++ a2_5), (wrap64 (x8_3 + 1)), (by first | rfl | (simp; done) | (simp [*]; done)), (by first | rfl | (simp; done) | (simp [*]; done)), H', ⟨by have := HJ3.out; have := HJ10.out; have := HK3.out; omega⟩, ⟨by (with_reducible repeat (first | refine blk_drewN ?_ _ | refine blk_drew ?_ | refine blk_alloc ?_ _)); exact BK120.out⟩, ⟨by repeat (first | (with_reducible first | exact HB.out | apply below_alloc | apply pw_below_drewN | apply below_drew1 | refine below_set ?_ GE120.out) | exact HB.out)⟩⟩
                          · rw [if_neg c27] at H
                            exact absurd H (by simp)
                        · replace c26 := Bool.eq_false_iff.mpr c26
                          subst c26
                          have H1 : ((spec_Times.f k3 (⟨#[32]⟩ : ByteArray) (a2_5.size : Int)).bind fun t127 => (if x7_3.size + t127.size ≤ 9223372036854775807 then (laws_FnPartPrefix.l0 k3 l0 a1 (x7_3 ++ t127) (wrap64 (x8_3 + 1)) a2_0 a2_1 a2_2 a2_3 a2_4 a2_5 a2_6 a2_7 a2_8) else (none))) = some r := by rw [if_neg (show ¬ (false = true) by decide)] at H; exact H
                          clear H
                          have H := H1
                          clear H1
                          replace H := Option.bind_eq_some_iff.mp H
                          obtain ⟨t127, A290, H⟩ := H
                          replace H : (if x7_3.size + t127.size ≤ 9223372036854775807 then (laws_FnPartPrefix.l0 k3 l0 a1 (x7_3 ++ t127) (wrap64 (x8_3 + 1)) a2_0 a2_1 a2_2 a2_3 a2_4 a2_5 a2_6 a2_7 a2_8) else (none)) = some r := H
                          have A29 := Aside0.mk A290
                          clear A290
                          by_cases c30 : x7_3.size + t127.size ≤ 9223372036854775807
                          · rw [if_pos c30] at H
                            have c30b0 := eq_true c30
                            have c30b1 : decide (x7_3.size + t127.size ≤ 9223372036854775807) = true := decide_eq_true c30
                            try have c30b2 : (9223372036854775807 < x7_3.size + t127.size) = False := eq_false (Nat.not_lt.2 c30)
                            have H' := Aside0.mk H
                            clear H
                            have p124 : 0 ≤ (a1 : Int) := of_decide_eq_true (by first | (with_reducible assumption) | assumption)
                            have q124 : a1 < (l0.length : Int) := of_decide_eq_true (by first | (with_reducible assumption) | assumption)
                            obtain ⟨ad124, e124, hx124_0⟩ := Kd.at_int HR0.out a1 p124 q124
                            cases e124
                            replace hx124_0 := (HB.out.cell (World.block_lt_of_cell? w _ hx124_0)).trans hx124_0
                            (try simp only [Go.IntWalk.toNatUp] at hx124_0)
                            replace p124 := eq_true p124
                            replace q124 := eq_true q124
                            go_wp2_with (first | ((with_reducible refine gate_callee (f := 8) rfl ?_); refine goesL_ (some 59) rfl rfl Try.func8 (by kernel_rfl) rfl #[.slice (some ad124) l0.length c0, .int .i64 x8_3, .int .i64 a1] rfl (by (try simp only [List.map_toArray, List.map_cons, List.map_nil]); first | done | rfl | (simp only [List.length_drop, List.length_take]; rfl)) ?_; (with_reducible refine (spec_ListMore.calls k3 _ _ l0 x8_3 a1 false _ ?side1 ?side2 A25.out).mono ?_); (case side1 => repeat (first | exact (Kd.C_below HR0.out HB.out) | (with_reducible refine Kd.C_alloc ?_ _) | (with_reducible refine Kd.C_drewN ?_ _) | (with_reducible refine Kd.C_drew ?_))); (case side2 => exact HC0.out); rintro e w' ⟨rfl, ⟨nd, rfl⟩⟩; refine ⟨_, rfl, ?_⟩; have hcz31_0 : wr.cell? ⟨gb120, 0, none⟩ = some (.int .i64 a2_0) := (blk_cell BK120.out 0).trans rfl; have hcz31_1 : wr.cell? ⟨gb120, 1, none⟩ = some (.string a2_1) := (blk_cell BK120.out 1).trans rfl; have hcz31_2 : wr.cell? ⟨gb120, 2, none⟩ = some (.string a2_2) := (blk_cell BK120.out 2).trans rfl; have hcz31_3 : wr.cell? ⟨gb120, 3, none⟩ = some (.string a2_3) := (blk_cell BK120.out 3).trans rfl; have hcz31_4 : wr.cell? ⟨gb120, 4, none⟩ = some (.string a2_4) := (blk_cell BK120.out 4).trans rfl; have hcz31_5 : wr.cell? ⟨gb120, 5, none⟩ = some (.string a2_5) := (blk_cell BK120.out 5).trans rfl; have hcz31_6 : wr.cell? ⟨gb120, 6, none⟩ = some (.string a2_6) := (blk_cell BK120.out 6).trans rfl; have hcz31_7 : wr.cell? ⟨gb120, 7, none⟩ = some (.string a2_7) := (blk_cell BK120.out 7).trans rfl; have hcz31_8 : wr.cell? ⟨gb120, 8, none⟩ = some (.string a2_8) := (blk_cell BK120.out 8).trans rfl; have hfz31_0 := blk_frozen BK120.out 0; have hfz31_1 := blk_frozen BK120.out 1; have hfz31_2 := blk_frozen BK120.out 2; have hfz31_3 := blk_frozen BK120.out 3; have hfz31_4 := blk_frozen BK120.out 4; have hfz31_5 := blk_frozen BK120.out 5; have hfz31_6 := blk_frozen BK120.out 6; have hfz31_7 := blk_frozen BK120.out 7; have hfz31_8 := blk_frozen BK120.out 8) | ((with_reducible refine gate_callee (f := 9) rfl ?_); refine goesL_ (some 68) rfl rfl Try.func9 (by kernel_rfl) rfl #[.string (⟨#[32]⟩ : ByteArray), .int .i64 (a2_5.size : Int)] rfl (by (try simp only [List.map_toArray, List.map_cons, List.map_nil]); first | done | rfl | (simp only [List.length_drop, List.length_take]; rfl)) ?_; (with_reducible refine (spec_Times.calls k3 (⟨#[32]⟩ : ByteArray) (a2_5.size : Int) t127 _ A29.out).mono ?_); rintro e w' ⟨rfl, ⟨nd, rfl⟩⟩; refine ⟨_, rfl, ?_⟩))
                            go_roundg k3
                            case measure => have := HJ3.out; have := HJ10.out; have := HK3.out; omega
                            case rel => exact ⟨(x7_3 ++ t127), (wrap64 (x8_3 + 1)), (by first | rfl | (simp; done) | (simp [*]; done)), (by first | rfl | (simp; done) | (simp [*]; done)), H', ⟨by have := HJ3.out; have := HJ10.out; have := HK3.out; omega⟩, ⟨by (with_reducible repeat (first | refine blk_drewN ?_ _ | refine blk_drew ?_ | refine blk_alloc ?_ _)); exact BK120.out⟩, ⟨by repeat (first | (with_reducible first | exact HB.out | apply below_alloc | apply pw_below_drewN | apply below_drew1 | refine below_set ?_ GE120.out) | exact HB.out)⟩⟩
                          · rw [if_neg c30] at H
                            exact absurd H (by simp)
                      · rw [if_neg c24] at H
                        have c24b0 : decide (x8_3 < (rd l0 a1)) = false := decide_eq_false c24
                        clear c24
                        replace H := Option.bind_eq_some_iff.mp H
                        obtain ⟨t125, A320, H⟩ := H
                        replace H : (some (t125.toList == x7_3.toList)) = some r := H
                        have A32 := Aside0.mk A320
                        clear A320
                        obtain rfl := Option.some.inj H
                        have p124 : 0 ≤ (a1 : Int) := of_decide_eq_true (by first | (with_reducible assumption) | assumption)
                        have q124 : a1 < (l0.length : Int) := of_decide_eq_true (by first | (with_reducible assumption) | assumption)
                        obtain ⟨ad124, e124, hx124_0⟩ := Kd.at_int HR0.out a1 p124 q124
                        cases e124
                        replace hx124_0 := (HB.out.cell (World.block_lt_of_cell? w _ hx124_0)).trans hx124_0
                        (try simp only [Go.IntWalk.toNatUp] at hx124_0)
                        replace p124 := eq_true p124
                        replace q124 := eq_true q124
                        have hcz33_0 : wr.cell? ⟨gb120, 0, none⟩ = some (.int .i64 a2_0) := (blk_cell BK120.out 0).trans rfl
                        have hcz33_1 : wr.cell? ⟨gb120, 1, none⟩ = some (.string a2_1) := (blk_cell BK120.out 1).trans rfl
                        have hcz33_2 : wr.cell? ⟨gb120, 2, none⟩ = some (.string a2_2) := (blk_cell BK120.out 2).trans rfl
                        have hcz33_3 : wr.cell? ⟨gb120, 3, none⟩ = some (.string a2_3) := (blk_cell BK120.out 3).trans rfl
                        have hcz33_4 : wr.cell? ⟨gb120, 4, none⟩ = some (.string a2_4) := (blk_cell BK120.out 4).trans rfl
                        have hcz33_5 : wr.cell? ⟨gb120, 5, none⟩ = some (.string a2_5) := (blk_cell BK120.out 5).trans rfl
                        have hcz33_6 : wr.cell? ⟨gb120, 6, none⟩ = some (.string a2_6) := (blk_cell BK120.out 6).trans rfl
                        have hcz33_7 : wr.cell? ⟨gb120, 7, none⟩ = some (.string a2_7) := (blk_cell BK120.out 7).trans rfl
                        have hcz33_8 : wr.cell? ⟨gb120, 8, none⟩ = some (.string a2_8) := (blk_cell BK120.out 8).trans rfl
                        have hfz33_0 := blk_frozen BK120.out 0
                        have hfz33_1 := blk_frozen BK120.out 1
                        have hfz33_2 := blk_frozen BK120.out 2
                        have hfz33_3 := blk_frozen BK120.out 3
                        have hfz33_4 := blk_frozen BK120.out 4
                        have hfz33_5 := blk_frozen BK120.out 5
                        have hfz33_6 := blk_frozen BK120.out 6
                        have hfz33_7 := blk_frozen BK120.out 7
                        have hfz33_8 := blk_frozen BK120.out 8
                        go_wp2_with (first | ((with_reducible refine gate_callee (f := 10) rfl ?_); refine goesL_ (some 73) rfl rfl Try.func10 (by kernel_rfl) rfl #[.slice (some ad124) l0.length c0, .int .i64 a1, .agg #[.int .i64 a2_0, .string a2_1, .string a2_2, .string a2_3, .string a2_4, .string a2_5, .string a2_6, .string a2_7, .string a2_8]] rfl (by (try simp only [List.map_toArray, List.map_cons, List.map_nil]); first | done | rfl | (simp only [List.length_drop, List.length_take]; rfl)) ?_; (with_reducible refine (impl_ListPrefix.calls _ _ l0 a1 a2_0 a2_1 a2_2 a2_3 a2_4 a2_5 a2_6 a2_7 a2_8 t125 _ ?side1 ?side2 A32.out).mono ?_); (case side1 => repeat (first | exact (Kd.C_below HR0.out HB.out) | (with_reducible refine Kd.C_alloc ?_ _) | (with_reducible refine Kd.C_drewN ?_ _) | (with_reducible refine Kd.C_drew ?_))); (case side2 => exact HC0.out); rintro e w34 ⟨rfl, hb⟩; refine ⟨_, rfl, ?_⟩; have n0_ := Aside0.mk (blk_below (g := gb120) (o := .cells #[.int .i64 a2_0, .string a2_1, .string a2_2, .string a2_3, .string a2_4, .string a2_5, .string a2_6, .string a2_7, .string a2_8] 24 (0, 0)) (by (with_reducible repeat (first | refine blk_drewN ?_ _ | refine blk_drew ?_ | refine blk_alloc ?_ _)); exact BK120.out) hb); have n1_ := Aside0.mk (below_step (by repeat (first | (with_reducible first | exact HB.out | apply below_alloc | apply pw_below_drewN | apply below_drew1 | refine below_set ?_ GE120.out) | exact HB.out)) hb); clear BK120; clear HB; have BK120 := n0_; have HB := n1_; clear n0_ n1_; (try clear hb); (try clear hb2); (try clear hk); (try clear hi)))
                        go_ret
                        exact ⟨by first | rfl | (simp [errW_none, errW_some] <;> rfl) | (simp [*, errW_none, errW_some] <;> rfl), by repeat (first | (with_reducible first | exact HB.out | apply below_alloc | apply pw_below_drewN | apply below_drew1 | refine below_set ?_ GE120.out) | exact HB.out)⟩
                    · rw [if_neg c23] at H
                      exact absurd H (by simp)
                  · rw [if_neg c22] at H
                    exact absurd H (by simp)

def laws_FnPartPrefix.Pure : Prop := ∀ (l0 : List Int) (a1 : Int) (a2_0 : Int) (a2_1 : ByteArray) (a2_2 : ByteArray) (a2_3 : ByteArray) (a2_4 : ByteArray) (a2_5 : ByteArray) (a2_6 : ByteArray) (a2_7 : ByteArray) (a2_8 : ByteArray), (l0.length * 8 ≤ 140737488351232 ∧ l0.length ≤ maxLen ∧ ∀ yl0 ∈ l0, (Lit.int .i64 yl0).wf = true) → (Lit.int .i64 a1).wf = true → (Lit.int .i64 a2_0).wf = true → a2_1.size ≤ 140737488351232 → a2_2.size ≤ 140737488351232 → a2_3.size ≤ 140737488351232 → a2_4.size ≤ 140737488351232 → a2_5.size ≤ 140737488351232 → a2_6.size ≤ 140737488351232 → a2_7.size ≤ 140737488351232 → a2_8.size ≤ 140737488351232 → ∃ k, laws_FnPartPrefix.f k l0 a1 a2_0 a2_1 a2_2 a2_3 a2_4 a2_5 a2_6 a2_7 a2_8 = some true

end Go.Proofs.YthepbgakfkiliaaR.PFnPartPrefix
