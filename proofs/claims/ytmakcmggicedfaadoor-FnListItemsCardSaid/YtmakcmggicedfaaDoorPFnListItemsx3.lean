-- Written by hprint.py, a program of this session
import Derived.Test.YtmakcmggicedfaaDoorPFnListItemsx0
import Derived.Test.YtmakcmggicedfaaDoorPFnListItemsx1
import Derived.Test.YtmakcmggicedfaaDoorPFnListItemsx2
namespace Go.Proofs.YtmakcmggicedfaaDoor.PFnListItems
open Go.RowKit Go.Proofs.YtmakcmggicedfaaDoor.Hand Go.Proofs.YtmakcmggicedfaaDoorW.PrintWords Go.Proofs.YtmakcmggicedfaaDoorW.PrintLast Go.Proofs.YtmakcmggicedfaaDoorW.PrintMore
attribute [local go_sem] max2_int min2_int max_two min_two max_three min_three max_four min_four   -- for this text's walks alone
set_option linter.unusedVariables false
set_option linter.unusedSimpArgs false

/-! ### spec_LsStyled: function 9 -/
mutual
def spec_LsStyled.l0 : Nat → List ByteArray → Int → Int → Int → ByteArray → ByteArray → ByteArray → ByteArray → ByteArray → ByteArray → ByteArray → ByteArray → Option (Bool)
  | 0, _, _, _, _, _, _, _, _, _, _, _, _ => none
  | k + 1, x21, x22, x23, x118000, x118001, x118002, x118003, x118004, x118005, x118006, x118007, x118008 => if x23 < x22 then (if 0 ≤ x23 then (if x23 < (x21.length : Int) then (if ((rdOf ByteArray.empty x21 x23).size : Int) > 20 then (some false) else ((spec_TxSimple.f k (rdOf ByteArray.empty x21 x23) false).bind fun t122 => (if t122 = true then (spec_LsStyled.l0 k x21 x22 (wrap64 (x23 + 1)) x118000 x118001 x118002 x118003 x118004 x118005 x118006 x118007 x118008) else (some false)))) else (none)) else (none)) else (spec_LsStyled.l1 k x118000 x118001 x118002 x118003 x118004 x118005 x118006 x118007 x118008 0 x118005)
def spec_LsStyled.l1 : Nat → Int → ByteArray → ByteArray → ByteArray → ByteArray → ByteArray → ByteArray → ByteArray → ByteArray → Int → ByteArray → Option (Bool)
  | 0, _, _, _, _, _, _, _, _, _, _, _ => none
  | k + 1, x118000, x118001, x118002, x118003, x118004, x118005, x118006, x118007, x118008, x124000, x124001 => if It.itK x124000 < (x124001.size : Int) then ((spec_TxWide.f (It.itR x124001 x124000)).bind fun t124 => (if t124 = true then (some false) else (spec_LsStyled.l1 k x118000 x118001 x118002 x118003 x118004 x118005 x118006 x118007 x118008 (It.itP x124001 x124000) x124001))) else (if x118000 = 0 then (some (x118007.toList == ([10] : List UInt8))) else (some false))
end
def spec_LsStyled.f (k : Nat) (a0_0 : Int) (a0_1 : ByteArray) (a0_2 : ByteArray) (a0_3 : ByteArray) (a0_4 : ByteArray) (a0_5 : ByteArray) (a0_6 : ByteArray) (a0_7 : ByteArray) (a0_8 : ByteArray) : Option (Bool) := (some (([a0_1, a0_2, a0_3, a0_4, a0_5, a0_6, a0_8] : List ByteArray) : List ByteArray)).bind fun y118 => (spec_LsStyled.l0 k y118 (y118.length : Int) 0 a0_0 a0_1 a0_2 a0_3 a0_4 a0_5 a0_6 a0_7 a0_8)
theorem spec_LsStyled.mono_l : ∀ k, (∀ y0 y1 y2 y3 y4 y5 y6 y7 y8 y9 y10 y11, LeO (spec_LsStyled.l0 k y0 y1 y2 y3 y4 y5 y6 y7 y8 y9 y10 y11) (spec_LsStyled.l0 (k + 1) y0 y1 y2 y3 y4 y5 y6 y7 y8 y9 y10 y11)) ∧ (∀ y0 y1 y2 y3 y4 y5 y6 y7 y8 y9 y10, LeO (spec_LsStyled.l1 k y0 y1 y2 y3 y4 y5 y6 y7 y8 y9 y10) (spec_LsStyled.l1 (k + 1) y0 y1 y2 y3 y4 y5 y6 y7 y8 y9 y10))
  | 0 => ⟨fun _ _ _ _ _ _ _ _ _ _ _ _ r h => by simp [spec_LsStyled.l0] at h, fun _ _ _ _ _ _ _ _ _ _ _ r h => by simp [spec_LsStyled.l1] at h⟩
  | k + 1 => by
    obtain ⟨ih0, ih1⟩ := spec_LsStyled.mono_l k
    refine ⟨?_, ?_⟩
    · intro y0 y1 y2 y3 y4 y5 y6 y7 y8 y9 y10 y11
      unfold spec_LsStyled.l0
      repeat' first
      | (with_reducible exact ih0 _ _ _ _ _ _ _ _ _ _ _ _)
      | (with_reducible exact ih1 _ _ _ _ _ _ _ _ _ _ _)
      | (with_reducible exact spec_TxSimple.mono _ _ _)
      | (with_reducible exact LeO.refl _)
      | (with_reducible exact LeO.none _)
      | (with_reducible refine LeO.ite ?_ ?_)
      | (with_reducible refine LeO.bind ?_ (fun _ => ?_))
      | exact ih0 _ _ _ _ _ _ _ _ _ _ _ _
      | exact ih1 _ _ _ _ _ _ _ _ _ _ _
      | exact spec_TxSimple.mono _ _ _
      | exact LeO.none _
      | refine LeO.ite ?_ ?_
      | refine LeO.bind ?_ (fun _ => ?_)
    · intro y0 y1 y2 y3 y4 y5 y6 y7 y8 y9 y10
      unfold spec_LsStyled.l1
      repeat' first
      | (with_reducible exact ih0 _ _ _ _ _ _ _ _ _ _ _ _)
      | (with_reducible exact ih1 _ _ _ _ _ _ _ _ _ _ _)
      | (with_reducible exact spec_TxSimple.mono _ _ _)
      | (with_reducible exact LeO.refl _)
      | (with_reducible exact LeO.none _)
      | (with_reducible refine LeO.ite ?_ ?_)
      | (with_reducible refine LeO.bind ?_ (fun _ => ?_))
      | exact ih0 _ _ _ _ _ _ _ _ _ _ _ _
      | exact ih1 _ _ _ _ _ _ _ _ _ _ _
      | exact spec_TxSimple.mono _ _ _
      | exact LeO.none _
      | refine LeO.ite ?_ ?_
      | refine LeO.bind ?_ (fun _ => ?_)
theorem spec_LsStyled.mono : ∀ a0 a1 a2 a3 a4 a5 a6 a7 a8 k, LeO (spec_LsStyled.f k a0 a1 a2 a3 a4 a5 a6 a7 a8) (spec_LsStyled.f (k + 1) a0 a1 a2 a3 a4 a5 a6 a7 a8) := by
  intro a0 a1 a2 a3 a4 a5 a6 a7 a8 k
  obtain ⟨ih0, ih1⟩ := spec_LsStyled.mono_l k
  unfold spec_LsStyled.f
  repeat' first
      | (with_reducible exact ih0 _ _ _ _ _ _ _ _ _ _ _ _)
      | (with_reducible exact ih1 _ _ _ _ _ _ _ _ _ _ _)
      | (with_reducible exact spec_TxSimple.mono _ _ _)
      | (with_reducible exact LeO.refl _)
      | (with_reducible exact LeO.none _)
      | (with_reducible refine LeO.ite ?_ ?_)
      | (with_reducible refine LeO.bind ?_ (fun _ => ?_))
      | exact ih0 _ _ _ _ _ _ _ _ _ _ _ _
      | exact ih1 _ _ _ _ _ _ _ _ _ _ _
      | exact spec_TxSimple.mono _ _ _
      | exact LeO.none _
      | refine LeO.ite ?_ ?_
      | refine LeO.bind ?_ (fun _ => ?_)
set_option maxHeartbeats 8000000 in
set_option maxRecDepth 100000 in
theorem spec_LsStyled.calls (k : Nat) (a0_0 : Int) (a0_1 : ByteArray) (a0_2 : ByteArray) (a0_3 : ByteArray) (a0_4 : ByteArray) (a0_5 : ByteArray) (a0_6 : ByteArray) (a0_7 : ByteArray) (a0_8 : ByteArray) (r : Bool) (w : World) (h : spec_LsStyled.f k a0_0 a0_1 a0_2 a0_3 a0_4 a0_5 a0_6 a0_7 a0_8 = some r) :
    Calls Tryd.prog 9 #[.agg #[.int .i64 a0_0, .string a0_1, .string a0_2, .string a0_3, .string a0_4, .string a0_5, .string a0_6, .string a0_7, .string a0_8]] w fun e w' => e = .returned (.bool r) ∧ Below w.heap.size w w' := by
  have hu24 := Tryd.underlying24
  have HB := Aside0.mk (Below.refl w.heap.size w)
  have H : ((some (([a0_1, a0_2, a0_3, a0_4, a0_5, a0_6, a0_8] : List ByteArray) : List ByteArray)).bind fun y118 => (spec_LsStyled.l0 k y118 (y118.length : Int) 0 a0_0 a0_1 a0_2 a0_3 a0_4 a0_5 a0_6 a0_7 a0_8)) = some r := h
  clear h
  obtain ⟨y118, hy118⟩ : ∃ y_ : List ByteArray, y_ = (([a0_1, a0_2, a0_3, a0_4, a0_5, a0_6, a0_8] : List ByteArray)) := ⟨_, rfl⟩
  replace H : (spec_LsStyled.l0 k y118 (y118.length : Int) 0 a0_0 a0_1 a0_2 a0_3 a0_4 a0_5 a0_6 a0_7 a0_8) = some r := by first | (rw [hy118]; with_reducible exact H) | (have H2_ := (Option.bind_some _ _).symm.trans H; rw [hy118]; with_reducible exact H2_) | (have H2_ := (Option.bind_some _ _).symm.trans H; with_reducible exact H2_) | with_reducible exact H | (rw [hy118]; exact H) | exact H
  have Ny118 := Aside0.mk hy118
  clear hy118
  have H' := Aside0.mk H
  clear H
  go_enter Tryd.func9, Tryd.ntmps9
  go_wp2_with (first | ((with_reducible refine gate_dst (N := 1) rfl ?_); refine box_event ?hg (N := 1) ?hd (cs := #[.int .i64 a0_0, .string a0_1, .string a0_2, .string a0_3, .string a0_4, .string a0_5, .string a0_6, .string a0_7, .string a0_8]) (t := 24) ?hr ?_; (case hd => rfl); (case hg => rfl); (case hr => first | (go_simp; done) | (go_simp; rfl)); intro gb117 hg w2 hbox hb; have n0_ := Aside0.mk (below_step (by repeat (first | (with_reducible first | exact HB.out | apply below_alloc | apply pw_below_drewN | apply below_drew1) | exact HB.out)) hb); have n1_ := Aside0.mk (hbox); have n2_ := Aside0.mk ((by rw [hg]; exact (below_size (by repeat (first | (with_reducible first | exact HB.out | apply below_alloc | apply pw_below_drewN | apply below_drew1) | exact HB.out))) : w.heap.size ≤ gb117)); have n3_ := Aside0.mk ((by rw [hg]; exact (below_size (by repeat (first | (with_reducible first | exact HB.out | apply below_alloc | apply pw_below_drewN | apply below_drew1) | exact HB.out))) : w.heap.size ≤ gb117)); clear HB; have HB := n0_; have BK117 := n1_; have GW117 := n2_; have GE117 := n3_; clear n0_ n1_ n2_ n3_; clear hb hbox hg; have hcz3_0 : w2.cell? ⟨gb117, 0, none⟩ = some (.int .i64 a0_0) := (blk_cell BK117.out 0).trans rfl; have hcz3_1 : w2.cell? ⟨gb117, 1, none⟩ = some (.string a0_1) := (blk_cell BK117.out 1).trans rfl; have hcz3_2 : w2.cell? ⟨gb117, 2, none⟩ = some (.string a0_2) := (blk_cell BK117.out 2).trans rfl; have hcz3_3 : w2.cell? ⟨gb117, 3, none⟩ = some (.string a0_3) := (blk_cell BK117.out 3).trans rfl; have hcz3_4 : w2.cell? ⟨gb117, 4, none⟩ = some (.string a0_4) := (blk_cell BK117.out 4).trans rfl; have hcz3_5 : w2.cell? ⟨gb117, 5, none⟩ = some (.string a0_5) := (blk_cell BK117.out 5).trans rfl; have hcz3_6 : w2.cell? ⟨gb117, 6, none⟩ = some (.string a0_6) := (blk_cell BK117.out 6).trans rfl; have hcz3_7 : w2.cell? ⟨gb117, 7, none⟩ = some (.string a0_7) := (blk_cell BK117.out 7).trans rfl; have hcz3_8 : w2.cell? ⟨gb117, 8, none⟩ = some (.string a0_8) := (blk_cell BK117.out 8).trans rfl; have hfz3_0 := blk_frozen BK117.out 0; have hfz3_1 := blk_frozen BK117.out 1; have hfz3_2 := blk_frozen BK117.out 2; have hfz3_3 := blk_frozen BK117.out 3; have hfz3_4 := blk_frozen BK117.out 4; have hfz3_5 := blk_frozen BK117.out 5; have hfz3_6 := blk_frozen BK117.out 6; have hfz3_7 := blk_frozen BK117.out 7; have hfz3_8 := blk_frozen BK117.out 8) | ((with_reducible refine gate_dst (N := 21) rfl ?_); refine Kd.R_lit Kd.string _ 9 ?hg (N := 21) ?hd (xs := ([a0_1, a0_2, a0_3, a0_4, a0_5, a0_6, a0_8] : List ByteArray)) (inner := [.string a0_1, .string a0_2, .string a0_3, .string a0_4, .string a0_5, .string a0_6, .string a0_8]) (ok := fun _ => True) (okp := fun _ => True) ?hr ?hp (fun _ hk => hk) trivial (Below.refl _ _) (Nat.le_refl _) (by simp) ?_; (case hd => rfl); (case hg => rfl); (case hr => first | (go_simp; done) | (go_simp; rfl)); (case hp => exact (Reps.one (show Kd.M Kd.string _ _ _ a0_1 [.string a0_1] from rfl) (Reps.one (show Kd.M Kd.string _ _ _ a0_2 [.string a0_2] from rfl) (Reps.one (show Kd.M Kd.string _ _ _ a0_3 [.string a0_3] from rfl) (Reps.one (show Kd.M Kd.string _ _ _ a0_4 [.string a0_4] from rfl) (Reps.one (show Kd.M Kd.string _ _ _ a0_5 [.string a0_5] from rfl) (Reps.one (show Kd.M Kd.string _ _ _ a0_6 [.string a0_6] from rfl) (Reps.one (show Kd.M Kd.string _ _ _ a0_8 [.string a0_8] from rfl) (Reps.none _ _))))))))); intro v119 w4 ho5 hb hg_ hnew_; clear hg_ hnew_; (first | rw [← Ny118.out] at ho5 | (simp only [Int.reduceToNat] at ho5; rw [← Ny118.out] at ho5)); have n0_ := Aside0.mk (Kd.R_lower ho5 (below_size (by repeat (first | (with_reducible first | exact HB.out | apply below_alloc | apply pw_below_drewN | apply below_drew1 | refine below_set ?_ GE117.out) | exact HB.out)))); have n1_ := Aside0.mk (blk_below (g := gb117) (o := .cells #[.int .i64 a0_0, .string a0_1, .string a0_2, .string a0_3, .string a0_4, .string a0_5, .string a0_6, .string a0_7, .string a0_8] 24 (0, 0)) (by (with_reducible repeat (first | refine blk_drewN ?_ _ | refine blk_drew ?_ | refine blk_alloc ?_ _)); exact BK117.out) hb); have n2_ := Aside0.mk (below_step (by repeat (first | (with_reducible first | exact HB.out | apply below_alloc | apply pw_below_drewN | apply below_drew1 | refine below_set ?_ GE117.out) | exact HB.out)) hb); clear BK117; clear HB; have HO120 := n0_; have BK117 := n1_; have HB := n2_; clear n0_ n1_ n2_; clear hb ho5; obtain ⟨Ao6, co6, eo6⟩ := Kd.R_slice HO120.out; subst eo6))
  go_loopg [23] k (fun kq v23 w' => ∃ (x23_1 : Int), v23 = .int .i64 x23_1 ∧ Aside0 (spec_LsStyled.l0 kq y118 (y118.length : Int) x23_1 a0_0 a0_1 a0_2 a0_3 a0_4 a0_5 a0_6 a0_7 a0_8 = some r) ∧ Aside0 (kq ≤ k) ∧ Aside0 (Kd.R Kd.string 9 w' w.heap.size (fun _ => True) (.slice Ao6 y118.length co6) y118) ∧ Aside0 (w'.heap[gb117]? = some (.cells #[.int .i64 a0_0, .string a0_1, .string a0_2, .string a0_3, .string a0_4, .string a0_5, .string a0_6, .string a0_7, .string a0_8] 24 (0, 0))) ∧ Aside0 (Below w.heap.size w w'))
  case atStart => exact ⟨(0), (by first | rfl | (simp; done) | (simp [*]; done)), H', ⟨Nat.le_refl _⟩, ⟨by (with_reducible repeat (first | apply Kd.R_alloc | apply Kd.R_drewN | apply Kd.R_drew)); exact HO120.out⟩, ⟨by (with_reducible repeat (first | refine blk_drewN ?_ _ | refine blk_drew ?_ | refine blk_alloc ?_ _)); exact BK117.out⟩, ⟨by repeat (first | (with_reducible first | exact HB.out | apply below_alloc | apply pw_below_drewN | apply below_drew1 | refine below_set ?_ GE117.out) | exact HB.out)⟩⟩
  case round =>
    clear H'
    try clear p2
    try clear hcz3_0
    try clear hcz3_1
    try clear hcz3_2
    try clear hcz3_3
    try clear hcz3_4
    try clear hcz3_5
    try clear hcz3_6
    try clear hcz3_7
    try clear hcz3_8
    try clear hfz3_0
    try clear hfz3_1
    try clear hfz3_2
    try clear hfz3_3
    try clear hfz3_4
    try clear hfz3_5
    try clear hfz3_6
    try clear hfz3_7
    try clear hfz3_8
    obtain ⟨x23_1, rfl, HA, HK1, HO_21, BK117, HB⟩ := hrel
    cases gk with
    | zero => exact absurd HA.out (by simp [spec_LsStyled.l0])
    | succ k1 =>
      have H := HA.out
      clear HA
      simp only [spec_LsStyled.l0] at H
      by_cases c7 : x23_1 < (y118.length : Int)
      · rw [if_pos c7] at H
        have c7b0 : decide (x23_1 < (y118.length : Int)) = true := decide_eq_true c7
        clear c7
        by_cases c8 : 0 ≤ x23_1
        · rw [if_pos c8] at H
          have c8b0 : decide (0 ≤ x23_1) = true := decide_eq_true c8
          clear c8
          by_cases c9 : x23_1 < (y118.length : Int)
          · rw [if_pos c9] at H
            have c9b0 : decide (x23_1 < (y118.length : Int)) = true := decide_eq_true c9
            clear c9
            by_cases c10 : ((rdOf ByteArray.empty y118 x23_1).size : Int) > 20
            · rw [if_pos c10] at H
              have c10b0 : decide (20 < ((rdOf ByteArray.empty y118 x23_1).size : Int)) = true := decide_eq_true c10
              have c10b1 : decide (20 < (rdOf ByteArray.empty y118 x23_1).size) = true := decide_eq_true (by omega)
              clear c10
              obtain rfl := Option.some.inj H
              have p121 : 0 ≤ (x23_1 : Int) := of_decide_eq_true (by first | (with_reducible assumption) | assumption)
              have q121 : x23_1 < (y118.length : Int) := of_decide_eq_true (by first | (with_reducible assumption) | assumption)
              obtain ⟨ad121, e121, hx121_0⟩ := Kd.at_string (Kd.R_reads' HO_21.out).2.2 x23_1 p121 q121
              cases e121
              (try simp only [Go.IntWalk.toNatUp] at hx121_0)
              replace p121 := eq_true p121
              replace q121 := eq_true q121
              go_wp2
              go_ret
              exact ⟨by first | rfl | (simp [errW_none, errW_some] <;> rfl) | (simp [*, errW_none, errW_some] <;> rfl), by repeat (first | (with_reducible first | exact HB.out | apply below_alloc | apply pw_below_drewN | apply below_drew1 | refine below_set ?_ GE117.out) | exact HB.out)⟩
            · rw [if_neg c10] at H
              have c10b0 : decide (20 < ((rdOf ByteArray.empty y118 x23_1).size : Int)) = false := decide_eq_false c10
              have c10b1 : decide (20 < (rdOf ByteArray.empty y118 x23_1).size) = false := decide_eq_false (by omega)
              clear c10
              replace H := Option.bind_eq_some_iff.mp H
              obtain ⟨t122, A110, H⟩ := H
              replace H : (if t122 = true then (spec_LsStyled.l0 k1 y118 (y118.length : Int) (wrap64 (x23_1 + 1)) a0_0 a0_1 a0_2 a0_3 a0_4 a0_5 a0_6 a0_7 a0_8) else (some false)) = some r := H
              have A11 := Aside0.mk A110
              clear A110
              by_cases c12 : t122 = true
              · subst c12
                have H1 : (spec_LsStyled.l0 k1 y118 (y118.length : Int) (wrap64 (x23_1 + 1)) a0_0 a0_1 a0_2 a0_3 a0_4 a0_5 a0_6 a0_7 a0_8) = some r := by rw [if_pos rfl] at H; exact H
                clear H
                have H := H1
                clear H1
                have H' := Aside0.mk H
                clear H
                have p121 : 0 ≤ (x23_1 : Int) := of_decide_eq_true (by first | (with_reducible assumption) | assumption)
                have q121 : x23_1 < (y118.length : Int) := of_decide_eq_true (by first | (with_reducible assumption) | assumption)
                obtain ⟨ad121, e121, hx121_0⟩ := Kd.at_string (Kd.R_reads' HO_21.out).2.2 x23_1 p121 q121
                cases e121
                (try simp only [Go.IntWalk.toNatUp] at hx121_0)
                replace p121 := eq_true p121
                replace q121 := eq_true q121
                go_wp2_with (first | (go_at_call 14; (with_reducible refine (spec_TxSimple.calls k1 (rdOf ByteArray.empty y118 x23_1) false true _ A11.out).mono ?_); rintro e w13 ⟨rfl, hb⟩; have n0_ := Aside0.mk (Kd.R_below (by (with_reducible repeat (first | apply Kd.R_alloc | apply Kd.R_drewN | apply Kd.R_drew)); exact HO_21.out) hb); have n1_ := Aside0.mk (blk_below (g := gb117) (o := .cells #[.int .i64 a0_0, .string a0_1, .string a0_2, .string a0_3, .string a0_4, .string a0_5, .string a0_6, .string a0_7, .string a0_8] 24 (0, 0)) (by (with_reducible repeat (first | refine blk_drewN ?_ _ | refine blk_drew ?_ | refine blk_alloc ?_ _)); exact BK117.out) hb); have n2_ := Aside0.mk (below_step (by repeat (first | (with_reducible first | exact HB.out | apply below_alloc | apply pw_below_drewN | apply below_drew1 | refine below_set ?_ GE117.out) | exact HB.out)) hb); clear HO_21; clear BK117; clear HB; have HO_21 := n0_; have BK117 := n1_; have HB := n2_; clear n0_ n1_ n2_; (try clear hb); (try clear hb2); (try clear hk); (try clear hi)))
                go_roundg k1
                case measure => have := HK1.out; omega
                case rel => exact ⟨(wrap64 (x23_1 + 1)), (by first | rfl | (simp; done) | (simp [*]; done)), H', ⟨by have := HK1.out; omega⟩, ⟨by (with_reducible repeat (first | apply Kd.R_alloc | apply Kd.R_drewN | apply Kd.R_drew)); exact HO_21.out⟩, ⟨by (with_reducible repeat (first | refine blk_drewN ?_ _ | refine blk_drew ?_ | refine blk_alloc ?_ _)); exact BK117.out⟩, ⟨by repeat (first | (with_reducible first | exact HB.out | apply below_alloc | apply pw_below_drewN | apply below_drew1 | refine below_set ?_ GE117.out) | exact HB.out)⟩⟩
              · replace c12 := Bool.eq_false_iff.mpr c12
                subst c12
                have H1 : (some false) = some r := by rw [if_neg (show ¬ (false = true) by decide)] at H; exact H
                clear H
                have H := H1
                clear H1
                obtain rfl := Option.some.inj H
                have p121 : 0 ≤ (x23_1 : Int) := of_decide_eq_true (by first | (with_reducible assumption) | assumption)
                have q121 : x23_1 < (y118.length : Int) := of_decide_eq_true (by first | (with_reducible assumption) | assumption)
                obtain ⟨ad121, e121, hx121_0⟩ := Kd.at_string (Kd.R_reads' HO_21.out).2.2 x23_1 p121 q121
                cases e121
                (try simp only [Go.IntWalk.toNatUp] at hx121_0)
                replace p121 := eq_true p121
                replace q121 := eq_true q121
                go_wp2_with (first | (go_at_call 14; (with_reducible refine (spec_TxSimple.calls k1 (rdOf ByteArray.empty y118 x23_1) false false _ A11.out).mono ?_); rintro e w14 ⟨rfl, hb⟩; have n0_ := Aside0.mk (Kd.R_below (by (with_reducible repeat (first | apply Kd.R_alloc | apply Kd.R_drewN | apply Kd.R_drew)); exact HO_21.out) hb); have n1_ := Aside0.mk (blk_below (g := gb117) (o := .cells #[.int .i64 a0_0, .string a0_1, .string a0_2, .string a0_3, .string a0_4, .string a0_5, .string a0_6, .string a0_7, .string a0_8] 24 (0, 0)) (by (with_reducible repeat (first | refine blk_drewN ?_ _ | refine blk_drew ?_ | refine blk_alloc ?_ _)); exact BK117.out) hb); have n2_ := Aside0.mk (below_step (by repeat (first | (with_reducible first | exact HB.out | apply below_alloc | apply pw_below_drewN | apply below_drew1 | refine below_set ?_ GE117.out) | exact HB.out)) hb); clear HO_21; clear BK117; clear HB; have HO_21 := n0_; have BK117 := n1_; have HB := n2_; clear n0_ n1_ n2_; (try clear hb); (try clear hb2); (try clear hk); (try clear hi)))
                go_ret
                exact ⟨by first | rfl | (simp [errW_none, errW_some] <;> rfl) | (simp [*, errW_none, errW_some] <;> rfl), by repeat (first | (with_reducible first | exact HB.out | apply below_alloc | apply pw_below_drewN | apply below_drew1 | refine below_set ?_ GE117.out) | exact HB.out)⟩
          · rw [if_neg c9] at H
            exact absurd H (by simp)
        · rw [if_neg c8] at H
          exact absurd H (by simp)
      · rw [if_neg c7] at H
        have c7b0 : decide (x23_1 < (y118.length : Int)) = false := decide_eq_false c7
        clear c7
        have H' := Aside0.mk H
        clear H
        have hcz15_0 : wr.cell? ⟨gb117, 0, none⟩ = some (.int .i64 a0_0) := (blk_cell BK117.out 0).trans rfl
        have hcz15_1 : wr.cell? ⟨gb117, 1, none⟩ = some (.string a0_1) := (blk_cell BK117.out 1).trans rfl
        have hcz15_2 : wr.cell? ⟨gb117, 2, none⟩ = some (.string a0_2) := (blk_cell BK117.out 2).trans rfl
        have hcz15_3 : wr.cell? ⟨gb117, 3, none⟩ = some (.string a0_3) := (blk_cell BK117.out 3).trans rfl
        have hcz15_4 : wr.cell? ⟨gb117, 4, none⟩ = some (.string a0_4) := (blk_cell BK117.out 4).trans rfl
        have hcz15_5 : wr.cell? ⟨gb117, 5, none⟩ = some (.string a0_5) := (blk_cell BK117.out 5).trans rfl
        have hcz15_6 : wr.cell? ⟨gb117, 6, none⟩ = some (.string a0_6) := (blk_cell BK117.out 6).trans rfl
        have hcz15_7 : wr.cell? ⟨gb117, 7, none⟩ = some (.string a0_7) := (blk_cell BK117.out 7).trans rfl
        have hcz15_8 : wr.cell? ⟨gb117, 8, none⟩ = some (.string a0_8) := (blk_cell BK117.out 8).trans rfl
        have hfz15_0 := blk_frozen BK117.out 0
        have hfz15_1 := blk_frozen BK117.out 1
        have hfz15_2 := blk_frozen BK117.out 2
        have hfz15_3 := blk_frozen BK117.out 3
        have hfz15_4 := blk_frozen BK117.out 4
        have hfz15_5 := blk_frozen BK117.out 5
        have hfz15_6 := blk_frozen BK117.out 6
        have hfz15_7 := blk_frozen BK117.out 7
        have hfz15_8 := blk_frozen BK117.out 8
        go_wp2_with (first | ((with_reducible refine gate_dst (N := 38) rfl ?_); refine It.range_event ?hg (N := 38) ?hd (s := a0_5) rfl Tryd.underlying9 ?hr ?_; (case hd => rfl); (case hg => rfl); (case hr => first | rfl | (go_simp; done) | (go_simp; rfl)); intro gb123 hg w16 hbox hb; have n0_ := Aside0.mk (Kd.R_below (by (with_reducible repeat (first | apply Kd.R_alloc | apply Kd.R_drewN | apply Kd.R_drew)); exact HO_21.out) hb); have n1_ := Aside0.mk (blk_below (g := gb117) (o := .cells #[.int .i64 a0_0, .string a0_1, .string a0_2, .string a0_3, .string a0_4, .string a0_5, .string a0_6, .string a0_7, .string a0_8] 24 (0, 0)) (by (with_reducible repeat (first | refine blk_drewN ?_ _ | refine blk_drew ?_ | refine blk_alloc ?_ _)); exact BK117.out) hb); have n2_ := Aside0.mk (below_step (by repeat (first | (with_reducible first | exact HB.out | apply below_alloc | apply pw_below_drewN | apply below_drew1 | refine below_set ?_ GE117.out) | exact HB.out)) hb); have n3_ := Aside0.mk (hbox); have n4_ := Aside0.mk ((by rw [hg]; exact (below_size (by repeat (first | (with_reducible first | exact HB.out | apply below_alloc | apply pw_below_drewN | apply below_drew1 | refine below_set ?_ GE117.out) | exact HB.out))) : w.heap.size ≤ gb123)); have n5_ := Aside0.mk ((by rw [hg]; exact (below_size (by repeat (first | (with_reducible first | exact HB.out | apply below_alloc | apply pw_below_drewN | apply below_drew1 | refine below_set ?_ GE117.out) | exact HB.out))) : w.heap.size ≤ gb123)); have n6_ := Aside0.mk ((by rw [hg]; exact Nat.ne_of_lt (blk_lt (g := gb117) (o := .cells #[.int .i64 a0_0, .string a0_1, .string a0_2, .string a0_3, .string a0_4, .string a0_5, .string a0_6, .string a0_7, .string a0_8] 24 (0, 0)) (by (with_reducible repeat (first | refine blk_drewN ?_ _ | refine blk_drew ?_ | refine blk_alloc ?_ _)); exact BK117.out)) : gb117 ≠ gb123)); have n7_ := Aside0.mk ((by rw [hg]; exact Nat.ne_of_gt (blk_lt (g := gb117) (o := .cells #[.int .i64 a0_0, .string a0_1, .string a0_2, .string a0_3, .string a0_4, .string a0_5, .string a0_6, .string a0_7, .string a0_8] 24 (0, 0)) (by (with_reducible repeat (first | refine blk_drewN ?_ _ | refine blk_drew ?_ | refine blk_alloc ?_ _)); exact BK117.out)) : gb123 ≠ gb117)); clear HO_21; clear BK117; clear HB; have HO_21 := n0_; have BK117 := n1_; have HB := n2_; have BK123 := n3_; have GW123 := n4_; have GE123 := n5_; have NB117_123 := n6_; have NB123_117 := n7_; clear n0_ n1_ n2_ n3_ n4_ n5_ n6_ n7_; clear hb hbox hg))
        (try simp only [Act.put, List.setIfInBounds_toArray, List.set_cons_zero, List.set_cons_succ])
        go_loopg [] k1 (fun kq w' => ∃ (x124000_2 : Int), Aside0 (spec_LsStyled.l1 kq a0_0 a0_1 a0_2 a0_3 a0_4 a0_5 a0_6 a0_7 a0_8 x124000_2 a0_5 = some r) ∧ Aside0 (kq ≤ k1) ∧ Aside0 (w'.heap[gb117]? = some (.cells #[.int .i64 a0_0, .string a0_1, .string a0_2, .string a0_3, .string a0_4, .string a0_5, .string a0_6, .string a0_7, .string a0_8] 24 (0, 0))) ∧ Aside0 (w'.heap[gb123]? = some (.stringIter a0_5 (x124000_2 : Int).toNat)) ∧ Aside0 (Below w.heap.size w w'))
        case atStart => exact ⟨(0), H', ⟨Nat.le_refl _⟩, ⟨by (with_reducible repeat (first | refine blk_drewN ?_ _ | refine blk_drew ?_ | refine blk_alloc ?_ _)); exact BK117.out⟩, ⟨by (with_reducible repeat (first | refine blk_drewN ?_ _ | refine blk_drew ?_ | refine blk_alloc ?_ _)); exact BK123.out⟩, ⟨by repeat (first | (with_reducible first | exact HB.out | apply below_alloc | apply pw_below_drewN | apply below_drew1 | refine below_set ?_ GE117.out | refine below_set ?_ GE123.out) | exact HB.out)⟩⟩
        case round =>
          clear H'
          try clear c1
          try clear p1
          try clear q1
          try clear hx1
          try clear p2
          try clear p6
          try clear c7
          try clear c7b0
          try clear c8
          try clear c8b0
          try clear c9
          try clear c9b0
          try clear c10
          try clear c10b0
          try clear c10b1
          try clear c12
          try clear p12
          try clear q12
          try clear hx12
          try clear hcz15_0
          try clear hcz15_1
          try clear hcz15_2
          try clear hcz15_3
          try clear hcz15_4
          try clear hcz15_5
          try clear hcz15_6
          try clear hcz15_7
          try clear hcz15_8
          try clear hcz3_0
          try clear hcz3_1
          try clear hcz3_2
          try clear hcz3_3
          try clear hcz3_4
          try clear hcz3_5
          try clear hcz3_6
          try clear hcz3_7
          try clear hcz3_8
          try clear hfz15_0
          try clear hfz15_1
          try clear hfz15_2
          try clear hfz15_3
          try clear hfz15_4
          try clear hfz15_5
          try clear hfz15_6
          try clear hfz15_7
          try clear hfz15_8
          try clear hfz3_0
          try clear hfz3_1
          try clear hfz3_2
          try clear hfz3_3
          try clear hfz3_4
          try clear hfz3_5
          try clear hfz3_6
          try clear hfz3_7
          try clear hfz3_8
          try clear hx121_0
          try clear p121
          try clear p2
          try clear q121
          obtain ⟨x124000_2, HA, HK2, BK117, BK123, HB⟩ := hrel
          cases gk with
          | zero => exact absurd HA.out (by simp [spec_LsStyled.l1])
          | succ k2 =>
            have H := HA.out
            clear HA
            simp only [spec_LsStyled.l1] at H
            by_cases c17 : It.itK x124000_2 < (a0_5.size : Int)
            · rw [if_pos c17] at H
              have c17b0 : decide (It.itK x124000_2 < (a0_5.size : Int)) = true := decide_eq_true c17
              clear c17
              replace H := Option.bind_eq_some_iff.mp H
              obtain ⟨t124, A180, H⟩ := H
              replace H : (if t124 = true then (some false) else (spec_LsStyled.l1 k2 a0_0 a0_1 a0_2 a0_3 a0_4 a0_5 a0_6 a0_7 a0_8 (It.itP a0_5 x124000_2) a0_5)) = some r := H
              have A18 := Aside0.mk A180
              clear A180
              by_cases c19 : t124 = true
              · subst c19
                have H1 : (some false) = some r := by rw [if_pos rfl] at H; exact H
                clear H
                have H := H1
                clear H1
                obtain rfl := Option.some.inj H
                go_wp2_with (first | ((with_reducible refine gate_dst (N := 39) rfl ?_); refine It.next_yes ?hg (N := 39) ?hd (g := gb123) (s := a0_5) (pos := x124000_2) rfl ?hr (by (with_reducible repeat (first | refine blk_drewN ?_ _ | refine blk_drew ?_ | refine blk_alloc ?_ _)); exact BK123.out) (of_decide_eq_true (by first | (with_reducible assumption) | assumption)) ?_; (case hd => rfl); (case hg => rfl); (case hr => first | rfl | (go_simp; done) | (go_simp; rfl)); intro w20 hg_ hbox; have n0_ := Aside0.mk (It.blk_iter (g' := gb117) (o := .cells #[.int .i64 a0_0, .string a0_1, .string a0_2, .string a0_3, .string a0_4, .string a0_5, .string a0_6, .string a0_7, .string a0_8] 24 (0, 0)) (by (with_reducible repeat (first | refine blk_drewN ?_ _ | refine blk_drew ?_ | refine blk_alloc ?_ _)); exact BK117.out) NB117_123.out hg_); have n1_ := Aside0.mk (hbox); have n2_ := Aside0.mk (It.below_iter (by repeat (first | (with_reducible first | exact HB.out | apply below_alloc | apply pw_below_drewN | apply below_drew1 | refine below_set ?_ GE117.out | refine below_set ?_ GE123.out) | exact HB.out)) (below_size (by repeat (first | (with_reducible first | exact HB.out | apply below_alloc | apply pw_below_drewN | apply below_drew1 | refine below_set ?_ GE117.out | refine below_set ?_ GE123.out) | exact HB.out))) hg_ GE123.out); clear BK117; clear BK123; clear HB; have BK117 := n0_; have BK123 := n1_; have HB := n2_; clear n0_ n1_ n2_; clear hg_ hbox) | ((with_reducible refine gate_callee (f := 22) rfl ?_); refine goesL_ (some 43) rfl rfl Tryd.func22 (by kernel_rfl) rfl #[.int .i32 (It.itR a0_5 x124000_2)] rfl (by (try simp only [List.map_toArray, List.map_cons, List.map_nil]); first | done | rfl | (simp only [List.length_drop, List.length_take]; rfl)) ?_; (with_reducible refine (spec_TxWide.calls (It.itR a0_5 x124000_2) true _ A18.out).mono ?_); rintro e w' ⟨rfl, ⟨nd, rfl⟩⟩; refine ⟨_, rfl, ?_⟩))
                go_ret
                exact ⟨by first | rfl | (simp [errW_none, errW_some] <;> rfl) | (simp [*, errW_none, errW_some] <;> rfl), by repeat (first | (with_reducible first | exact HB.out | apply below_alloc | apply pw_below_drewN | apply below_drew1 | refine below_set ?_ GE117.out | refine below_set ?_ GE123.out) | exact HB.out)⟩
              · replace c19 := Bool.eq_false_iff.mpr c19
                subst c19
                have H1 : (spec_LsStyled.l1 k2 a0_0 a0_1 a0_2 a0_3 a0_4 a0_5 a0_6 a0_7 a0_8 (It.itP a0_5 x124000_2) a0_5) = some r := by rw [if_neg (show ¬ (false = true) by decide)] at H; exact H
                clear H
                have H := H1
                clear H1
                have H' := Aside0.mk H
                clear H
                go_wp2_with (first | ((with_reducible refine gate_dst (N := 39) rfl ?_); refine It.next_yes ?hg (N := 39) ?hd (g := gb123) (s := a0_5) (pos := x124000_2) rfl ?hr (by (with_reducible repeat (first | refine blk_drewN ?_ _ | refine blk_drew ?_ | refine blk_alloc ?_ _)); exact BK123.out) (of_decide_eq_true (by first | (with_reducible assumption) | assumption)) ?_; (case hd => rfl); (case hg => rfl); (case hr => first | rfl | (go_simp; done) | (go_simp; rfl)); intro w21 hg_ hbox; have n0_ := Aside0.mk (It.blk_iter (g' := gb117) (o := .cells #[.int .i64 a0_0, .string a0_1, .string a0_2, .string a0_3, .string a0_4, .string a0_5, .string a0_6, .string a0_7, .string a0_8] 24 (0, 0)) (by (with_reducible repeat (first | refine blk_drewN ?_ _ | refine blk_drew ?_ | refine blk_alloc ?_ _)); exact BK117.out) NB117_123.out hg_); have n1_ := Aside0.mk (hbox); have n2_ := Aside0.mk (It.below_iter (by repeat (first | (with_reducible first | exact HB.out | apply below_alloc | apply pw_below_drewN | apply below_drew1 | refine below_set ?_ GE117.out | refine below_set ?_ GE123.out) | exact HB.out)) (below_size (by repeat (first | (with_reducible first | exact HB.out | apply below_alloc | apply pw_below_drewN | apply below_drew1 | refine below_set ?_ GE117.out | refine below_set ?_ GE123.out) | exact HB.out))) hg_ GE123.out); clear BK117; clear BK123; clear HB; have BK117 := n0_; have BK123 := n1_; have HB := n2_; clear n0_ n1_ n2_; clear hg_ hbox) | ((with_reducible refine gate_callee (f := 22) rfl ?_); refine goesL_ (some 43) rfl rfl Tryd.func22 (by kernel_rfl) rfl #[.int .i32 (It.itR a0_5 x124000_2)] rfl (by (try simp only [List.map_toArray, List.map_cons, List.map_nil]); first | done | rfl | (simp only [List.length_drop, List.length_take]; rfl)) ?_; (with_reducible refine (spec_TxWide.calls (It.itR a0_5 x124000_2) false _ A18.out).mono ?_); rintro e w' ⟨rfl, ⟨nd, rfl⟩⟩; refine ⟨_, rfl, ?_⟩))
                go_roundg k2
                case measure => have := HK1.out; have := HK2.out; omega
                case rel => exact ⟨(It.itP a0_5 x124000_2), H', ⟨by have := HK1.out; have := HK2.out; omega⟩, ⟨by (with_reducible repeat (first | refine blk_drewN ?_ _ | refine blk_drew ?_ | refine blk_alloc ?_ _)); exact BK117.out⟩, ⟨by (with_reducible repeat (first | refine blk_drewN ?_ _ | refine blk_drew ?_ | refine blk_alloc ?_ _)); exact BK123.out⟩, ⟨by repeat (first | (with_reducible first | exact HB.out | apply below_alloc | apply pw_below_drewN | apply below_drew1 | refine below_set ?_ GE117.out | refine below_set ?_ GE123.out) | exact HB.out)⟩⟩
            · rw [if_neg c17] at H
              have c17b0 : decide (It.itK x124000_2 < (a0_5.size : Int)) = false := decide_eq_false c17
              clear c17
              by_cases c22 : a0_0 = 0
              · rw [if_pos c22] at H
                have c22b0 : (a0_0 == 0) = true := beq_iff_eq.mpr c22
                have c22b1 : (a0_0 != 0) = false := bne_eq_false_iff_eq.mpr c22
                clear c22
                obtain rfl := Option.some.inj H
                have hnb23 := NB117_123.out
                have hnc23 := NB123_117.out
                have hcz24_0 : wr.cell? ⟨gb117, 0, none⟩ = some (.int .i64 a0_0) := (blk_cell BK117.out 0).trans rfl
                have hcz24_1 : wr.cell? ⟨gb117, 1, none⟩ = some (.string a0_1) := (blk_cell BK117.out 1).trans rfl
                have hcz24_2 : wr.cell? ⟨gb117, 2, none⟩ = some (.string a0_2) := (blk_cell BK117.out 2).trans rfl
                have hcz24_3 : wr.cell? ⟨gb117, 3, none⟩ = some (.string a0_3) := (blk_cell BK117.out 3).trans rfl
                have hcz24_4 : wr.cell? ⟨gb117, 4, none⟩ = some (.string a0_4) := (blk_cell BK117.out 4).trans rfl
                have hcz24_5 : wr.cell? ⟨gb117, 5, none⟩ = some (.string a0_5) := (blk_cell BK117.out 5).trans rfl
                have hcz24_6 : wr.cell? ⟨gb117, 6, none⟩ = some (.string a0_6) := (blk_cell BK117.out 6).trans rfl
                have hcz24_7 : wr.cell? ⟨gb117, 7, none⟩ = some (.string a0_7) := (blk_cell BK117.out 7).trans rfl
                have hcz24_8 : wr.cell? ⟨gb117, 8, none⟩ = some (.string a0_8) := (blk_cell BK117.out 8).trans rfl
                have hfz24_0 := blk_frozen BK117.out 0
                have hfz24_1 := blk_frozen BK117.out 1
                have hfz24_2 := blk_frozen BK117.out 2
                have hfz24_3 := blk_frozen BK117.out 3
                have hfz24_4 := blk_frozen BK117.out 4
                have hfz24_5 := blk_frozen BK117.out 5
                have hfz24_6 := blk_frozen BK117.out 6
                have hfz24_7 := blk_frozen BK117.out 7
                have hfz24_8 := blk_frozen BK117.out 8
                go_wp2_with (first | ((with_reducible refine gate_dst (N := 39) rfl ?_); refine It.next_no ?hg (N := 39) ?hd (g := gb123) (s := a0_5) (pos := x124000_2) rfl ?hr (by (with_reducible repeat (first | refine blk_drewN ?_ _ | refine blk_drew ?_ | refine blk_alloc ?_ _)); exact BK123.out) (of_decide_eq_false (by first | (with_reducible assumption) | assumption)) ?_; (case hd => rfl); (case hg => rfl); (case hr => first | rfl | (go_simp; done) | (go_simp; rfl))))
                go_ret
                exact ⟨by first | rfl | (simp [errW_none, errW_some] <;> rfl) | (simp [*, errW_none, errW_some] <;> rfl), by repeat (first | (with_reducible first | exact HB.out | apply below_alloc | apply pw_below_drewN | apply below_drew1 | refine below_set ?_ GE117.out | refine below_set ?_ GE123.out) | exact HB.out)⟩
              · rw [if_neg c22] at H
                have c22b0 : (a0_0 == 0) = false := beq_eq_false_iff_ne.mpr c22
                have c22b1 : (a0_0 != 0) = true := bne_iff_ne.mpr c22
                obtain rfl := Option.some.inj H
                have hnb25 := NB117_123.out
                have hnc25 := NB123_117.out
                have hcz26_0 : wr.cell? ⟨gb117, 0, none⟩ = some (.int .i64 a0_0) := (blk_cell BK117.out 0).trans rfl
                have hcz26_1 : wr.cell? ⟨gb117, 1, none⟩ = some (.string a0_1) := (blk_cell BK117.out 1).trans rfl
                have hcz26_2 : wr.cell? ⟨gb117, 2, none⟩ = some (.string a0_2) := (blk_cell BK117.out 2).trans rfl
                have hcz26_3 : wr.cell? ⟨gb117, 3, none⟩ = some (.string a0_3) := (blk_cell BK117.out 3).trans rfl
                have hcz26_4 : wr.cell? ⟨gb117, 4, none⟩ = some (.string a0_4) := (blk_cell BK117.out 4).trans rfl
                have hcz26_5 : wr.cell? ⟨gb117, 5, none⟩ = some (.string a0_5) := (blk_cell BK117.out 5).trans rfl
                have hcz26_6 : wr.cell? ⟨gb117, 6, none⟩ = some (.string a0_6) := (blk_cell BK117.out 6).trans rfl
                have hcz26_7 : wr.cell? ⟨gb117, 7, none⟩ = some (.string a0_7) := (blk_cell BK117.out 7).trans rfl
                have hcz26_8 : wr.cell? ⟨gb117, 8, none⟩ = some (.string a0_8) := (blk_cell BK117.out 8).trans rfl
                have hfz26_0 := blk_frozen BK117.out 0
                have hfz26_1 := blk_frozen BK117.out 1
                have hfz26_2 := blk_frozen BK117.out 2
                have hfz26_3 := blk_frozen BK117.out 3
                have hfz26_4 := blk_frozen BK117.out 4
                have hfz26_5 := blk_frozen BK117.out 5
                have hfz26_6 := blk_frozen BK117.out 6
                have hfz26_7 := blk_frozen BK117.out 7
                have hfz26_8 := blk_frozen BK117.out 8
                go_wp2_with (first | ((with_reducible refine gate_dst (N := 39) rfl ?_); refine It.next_no ?hg (N := 39) ?hd (g := gb123) (s := a0_5) (pos := x124000_2) rfl ?hr (by (with_reducible repeat (first | refine blk_drewN ?_ _ | refine blk_drew ?_ | refine blk_alloc ?_ _)); exact BK123.out) (of_decide_eq_false (by first | (with_reducible assumption) | assumption)) ?_; (case hd => rfl); (case hg => rfl); (case hr => first | rfl | (go_simp; done) | (go_simp; rfl))))
                go_ret
                exact ⟨by first | rfl | (simp [errW_none, errW_some] <;> rfl) | (simp [*, errW_none, errW_some] <;> rfl), by repeat (first | (with_reducible first | exact HB.out | apply below_alloc | apply pw_below_drewN | apply below_drew1 | refine below_set ?_ GE117.out | refine below_set ?_ GE123.out) | exact HB.out)⟩

-- BY HAND: function 11 (impl_ListRender)

/-! ### spec_LsSteps: function 12 -/
mutual
def spec_LsSteps.l0 : Nat → List (S38) → Int → List (S33) → Int → Int → Option ((List (S38)))
  | 0, _, _, _, _, _ => none
  | k + 1, x3, x4, x7, x8, x9 => if x9 < x8 then (if 0 ≤ x9 then (if x9 < (x7.length : Int) then (spec_LsSteps.l1 k x3 x4 x7 x8 x9 ((rd_T33 x7 x9).f0) ((rd_T33 x7 x9).f1)) else (none)) else (none)) else (some x3)
def spec_LsSteps.l1 : Nat → List (S38) → Int → List (S33) → Int → Int → ByteArray → Int → Option ((List (S38)))
  | 0, _, _, _, _, _, _, _ => none
  | k + 1, x3, x4, x7, x8, x9, x127000, x127001 => if x4 < x127001 then (if x3.length < 2932031007402 then (spec_LsSteps.l1 k (x3 ++ [(⟨2, (⟨#[]⟩ : ByteArray), ([] : List ByteArray)⟩ : S38)]) (wrap64 (x4 + 1)) x7 x8 x9 x127000 x127001) else (none)) else (spec_LsSteps.l2 k x3 x4 x7 x8 x9 x127000 x127001)
def spec_LsSteps.l2 : Nat → List (S38) → Int → List (S33) → Int → Int → ByteArray → Int → Option ((List (S38)))
  | 0, _, _, _, _, _, _, _ => none
  | k + 1, x3, x4, x7, x8, x9, x127000, x127001 => if x4 > x127001 then (if x3.length < 2932031007402 then (spec_LsSteps.l2 k (x3 ++ [(⟨3, (⟨#[]⟩ : ByteArray), ([] : List ByteArray)⟩ : S38)]) (wrap64 (x4 - 1)) x7 x8 x9 x127000 x127001) else (none)) else (if x3.length < 2932031007402 then (spec_LsSteps.l0 k (x3 ++ [(⟨0, x127000, ([] : List ByteArray)⟩ : S38)]) x4 x7 x8 (wrap64 (x9 + 1))) else (none))
end
def spec_LsSteps.f (k : Nat) (l0 : List (S33)) : Option ((List (S38))) := spec_LsSteps.l0 k ([] : List (S38)) 0 l0 (l0.length : Int) 0
theorem spec_LsSteps.mono_l : ∀ k, (∀ y0 y1 y2 y3 y4, LeO (spec_LsSteps.l0 k y0 y1 y2 y3 y4) (spec_LsSteps.l0 (k + 1) y0 y1 y2 y3 y4)) ∧ (∀ y0 y1 y2 y3 y4 y5 y6, LeO (spec_LsSteps.l1 k y0 y1 y2 y3 y4 y5 y6) (spec_LsSteps.l1 (k + 1) y0 y1 y2 y3 y4 y5 y6)) ∧ (∀ y0 y1 y2 y3 y4 y5 y6, LeO (spec_LsSteps.l2 k y0 y1 y2 y3 y4 y5 y6) (spec_LsSteps.l2 (k + 1) y0 y1 y2 y3 y4 y5 y6))
  | 0 => ⟨fun _ _ _ _ _ r h => by simp [spec_LsSteps.l0] at h, fun _ _ _ _ _ _ _ r h => by simp [spec_LsSteps.l1] at h, fun _ _ _ _ _ _ _ r h => by simp [spec_LsSteps.l2] at h⟩
  | k + 1 => by
    obtain ⟨ih0, ih1, ih2⟩ := spec_LsSteps.mono_l k
    refine ⟨?_, ?_, ?_⟩
    · intro y0 y1 y2 y3 y4
      unfold spec_LsSteps.l0
      repeat' first
      | (with_reducible exact ih0 _ _ _ _ _)
      | (with_reducible exact ih1 _ _ _ _ _ _ _)
      | (with_reducible exact ih2 _ _ _ _ _ _ _)
      | (with_reducible exact LeO.refl _)
      | (with_reducible exact LeO.none _)
      | (with_reducible refine LeO.ite ?_ ?_)
      | (with_reducible refine LeO.bind ?_ (fun _ => ?_))
      | exact ih0 _ _ _ _ _
      | exact ih1 _ _ _ _ _ _ _
      | exact ih2 _ _ _ _ _ _ _
      | exact LeO.none _
      | refine LeO.ite ?_ ?_
      | refine LeO.bind ?_ (fun _ => ?_)
    · intro y0 y1 y2 y3 y4 y5 y6
      unfold spec_LsSteps.l1
      repeat' first
      | (with_reducible exact ih0 _ _ _ _ _)
      | (with_reducible exact ih1 _ _ _ _ _ _ _)
      | (with_reducible exact ih2 _ _ _ _ _ _ _)
      | (with_reducible exact LeO.refl _)
      | (with_reducible exact LeO.none _)
      | (with_reducible refine LeO.ite ?_ ?_)
      | (with_reducible refine LeO.bind ?_ (fun _ => ?_))
      | exact ih0 _ _ _ _ _
      | exact ih1 _ _ _ _ _ _ _
      | exact ih2 _ _ _ _ _ _ _
      | exact LeO.none _
      | refine LeO.ite ?_ ?_
      | refine LeO.bind ?_ (fun _ => ?_)
    · intro y0 y1 y2 y3 y4 y5 y6
      unfold spec_LsSteps.l2
      repeat' first
      | (with_reducible exact ih0 _ _ _ _ _)
      | (with_reducible exact ih1 _ _ _ _ _ _ _)
      | (with_reducible exact ih2 _ _ _ _ _ _ _)
      | (with_reducible exact LeO.refl _)
      | (with_reducible exact LeO.none _)
      | (with_reducible refine LeO.ite ?_ ?_)
      | (with_reducible refine LeO.bind ?_ (fun _ => ?_))
      | exact ih0 _ _ _ _ _
      | exact ih1 _ _ _ _ _ _ _
      | exact ih2 _ _ _ _ _ _ _
      | exact LeO.none _
      | refine LeO.ite ?_ ?_
      | refine LeO.bind ?_ (fun _ => ?_)
theorem spec_LsSteps.mono : ∀ a0 k, LeO (spec_LsSteps.f k a0) (spec_LsSteps.f (k + 1) a0) := by
  intro a0 k
  obtain ⟨ih0, ih1, ih2⟩ := spec_LsSteps.mono_l k
  unfold spec_LsSteps.f
  repeat' first
      | (with_reducible exact ih0 _ _ _ _ _)
      | (with_reducible exact ih1 _ _ _ _ _ _ _)
      | (with_reducible exact ih2 _ _ _ _ _ _ _)
      | (with_reducible exact LeO.refl _)
      | (with_reducible exact LeO.none _)
      | (with_reducible refine LeO.ite ?_ ?_)
      | (with_reducible refine LeO.bind ?_ (fun _ => ?_))
      | exact ih0 _ _ _ _ _
      | exact ih1 _ _ _ _ _ _ _
      | exact ih2 _ _ _ _ _ _ _
      | exact LeO.none _
      | refine LeO.ite ?_ ?_
      | refine LeO.bind ?_ (fun _ => ?_)
set_option maxHeartbeats 8000000 in
set_option maxRecDepth 100000 in
theorem spec_LsSteps.calls (k : Nat) (A0 : Option Addr) (c0 : Nat) (l0 : List (S33)) (r : List (S38)) (w : World) (hr0 : Kd.C k33 w A0 l0.length l0) (hc0 : l0.length ≤ c0) (h : spec_LsSteps.f k l0 = some r) :
    Calls Tryd.prog 12 #[.slice A0 l0.length c0] w fun e w' => ∃ v0_ : Value, e = .returned (v0_) ∧ Kd.S k38 38 w' w.heap.size (fun _ => True) v0_ r ∧ Below w.heap.size w w' := by
  have hu33 := Tryd.underlying33
  have hu38 := Tryd.underlying38
  have HR0 := Aside0.mk hr0
  have HC0 := Aside0.mk hc0
  clear hr0 hc0
  have HB := Aside0.mk (Below.refl w.heap.size w)
  have H : (spec_LsSteps.l0 k ([] : List (S38)) 0 l0 (l0.length : Int) 0) = some r := h
  clear h
  have H' := Aside0.mk H
  clear H
  go_enter Tryd.func12, Tryd.ntmps12
  go_wp2
  go_loopg [3, 4, 9] k (fun kq v3 v4 v9 w' => ∃ (x3_1 : List (S38)) (x4_1 : Int) (x9_1 : Int), v4 = .int .i64 x4_1 ∧ v9 = .int .i64 x9_1 ∧ Aside0 (spec_LsSteps.l0 kq x3_1 x4_1 l0 (l0.length : Int) x9_1 = some r) ∧ Aside0 (kq ≤ k) ∧ Aside0 (Kd.S k38 38 w' w.heap.size (fun _ => True) v3 x3_1) ∧ Aside0 (Below w.heap.size w w'))
  case atStart => exact ⟨(([] : List (S38))), (0), (0), (by first | rfl | (simp; done) | (simp [*]; done)), (by first | rfl | (simp; done) | (simp [*]; done)), H', ⟨Nat.le_refl _⟩, ⟨by first | exact Kd.S_nil _ _ _ _ _ | exact Kd.N_nil _ _ _ _ _ | exact Kd.V_nil _ _ _ _ _ | exact Kd.Q_nil _ _ _ _ _ | exact Kd.R_nil _ _ _ _ _⟩, ⟨by repeat (first | (with_reducible first | exact HB.out | apply below_alloc | apply pw_below_drewN | apply below_drew1) | exact HB.out)⟩⟩
  case round =>
    clear H'
    try clear c1
    obtain ⟨x3_1, x4_1, x9_1, rfl, rfl, HA, HK1, HO_3, HB⟩ := hrel
    cases gk with
    | zero => exact absurd HA.out (by simp [spec_LsSteps.l0])
    | succ k1 =>
      have H := HA.out
      clear HA
      simp only [spec_LsSteps.l0] at H
      by_cases c2 : x9_1 < (l0.length : Int)
      · rw [if_pos c2] at H
        have c2b0 : decide (x9_1 < (l0.length : Int)) = true := decide_eq_true c2
        clear c2
        by_cases c3 : 0 ≤ x9_1
        · rw [if_pos c3] at H
          have c3b0 : decide (0 ≤ x9_1) = true := decide_eq_true c3
          clear c3
          by_cases c4 : x9_1 < (l0.length : Int)
          · rw [if_pos c4] at H
            have c4b0 : decide (x9_1 < (l0.length : Int)) = true := decide_eq_true c4
            clear c4
            have H' := Aside0.mk H
            clear H
            have p125 : 0 ≤ (x9_1 : Int) := of_decide_eq_true (by first | (with_reducible assumption) | assumption)
            have q125 : x9_1 < (l0.length : Int) := of_decide_eq_true (by first | (with_reducible assumption) | assumption)
            obtain ⟨ad125, e125, hx125_0, hx125_1⟩ := at_T33 HR0.out x9_1 p125 q125
            cases e125
            replace hx125_0 := (HB.out.cell (World.block_lt_of_cell? w _ hx125_0)).trans hx125_0
            replace hx125_1 := (HB.out.cell (World.block_lt_of_cell? w _ hx125_1)).trans hx125_1
            (try simp only [Go.IntWalk.toNatUp] at hx125_0)
            (try simp only [Go.IntWalk.toNatUp] at hx125_1)
            replace p125 := eq_true p125
            replace q125 := eq_true q125
            go_wp2_with (first | ((with_reducible refine gate_dst (N := 6) rfl ?_); refine box_event ?hg (N := 6) ?hd (cs := #[.string (⟨#[]⟩ : ByteArray), .int .i64 0]) (t := 33) ?hr ?_; (case hd => rfl); (case hg => rfl); (case hr => first | (go_simp; done) | (go_simp; rfl)); intro gb126 hg w5 hbox hb; have n0_ := Aside0.mk (Kd.S_below (by (with_reducible repeat (first | apply Kd.S_alloc | apply Kd.S_drewN | apply Kd.S_drew)); exact HO_3.out) hb); have n1_ := Aside0.mk (below_step (by repeat (first | (with_reducible first | exact HB.out | apply below_alloc | apply pw_below_drewN | apply below_drew1) | exact HB.out)) hb); have n2_ := Aside0.mk (hbox); have n3_ := Aside0.mk ((by rw [hg]; exact (below_size (by repeat (first | (with_reducible first | exact HB.out | apply below_alloc | apply pw_below_drewN | apply below_drew1) | exact HB.out))) : w.heap.size ≤ gb126)); have n4_ := Aside0.mk ((by rw [hg]; exact (below_size (by repeat (first | (with_reducible first | exact HB.out | apply below_alloc | apply pw_below_drewN | apply below_drew1) | exact HB.out))) : w.heap.size ≤ gb126)); clear HO_3; clear HB; have HO_3 := n0_; have HB := n1_; have BK126 := n2_; have GW126 := n3_; have GE126 := n4_; clear n0_ n1_ n2_ n3_ n4_; clear hb hbox hg; have hcz6_0 : w5.cell? ⟨gb126, 0, none⟩ = some (.string (⟨#[]⟩ : ByteArray)) := (blk_cell BK126.out 0).trans rfl; have hcz6_1 : w5.cell? ⟨gb126, 1, none⟩ = some (.int .i64 0) := (blk_cell BK126.out 1).trans rfl; have hfz6_0 := blk_frozen BK126.out 0; have hfz6_1 := blk_frozen BK126.out 1))
            go_loopg [3, 4] k1 (fun kq v3 v4 w' => ∃ (x3_2 : List (S38)) (x4_2 : Int), v4 = .int .i64 x4_2 ∧ Aside0 (spec_LsSteps.l1 kq x3_2 x4_2 l0 (l0.length : Int) x9_1 ((rd_T33 l0 x9_1).f0) ((rd_T33 l0 x9_1).f1) = some r) ∧ Aside0 (kq ≤ k1) ∧ Aside0 (Kd.S k38 38 w' w.heap.size (fun _ => True) v3 x3_2) ∧ Aside0 (w'.heap[gb126]? = some (.cells #[.string ((rd_T33 l0 x9_1).f0), .int .i64 ((rd_T33 l0 x9_1).f1)] 33 (0, 0))) ∧ Aside0 (Below w.heap.size w w'))
            case atStart => exact ⟨(x3_1), (x4_1), (by first | rfl | (simp; done) | (simp [*]; done)), H', ⟨Nat.le_refl _⟩, ⟨by (with_reducible repeat (first | apply Kd.S_alloc | apply Kd.S_drewN | apply Kd.S_drew)); exact Kd.S_mono (Kd.S_far (p := ⟨gb126, 1, none⟩) (Kd.S_far (p := ⟨gb126, 0, none⟩) (Kd.S_types HO_3.out BK126.out (by decide)) (fun _ hk => hk.2) (.string ((rd_T33 l0 x9_1).f0))) (fun _ hk => hk.2) (.int .i64 ((rd_T33 l0 x9_1).f1))) (fun _ hk => trivial)⟩, ⟨by (with_reducible repeat (first | refine blk_drewN ?_ _ | refine blk_drew ?_ | refine blk_alloc ?_ _)); refine blk_put (cs := #[.string ((rd_T33 l0 x9_1).f0), .int .i64 0]) ?_ 1 _ rfl; (with_reducible repeat (first | refine blk_drewN ?_ _ | refine blk_drew ?_ | refine blk_alloc ?_ _)); refine blk_put (cs := #[.string (⟨#[]⟩ : ByteArray), .int .i64 0]) ?_ 0 _ rfl; (with_reducible repeat (first | refine blk_drewN ?_ _ | refine blk_drew ?_ | refine blk_alloc ?_ _)); exact BK126.out⟩, ⟨by repeat (first | (with_reducible first | exact HB.out | apply below_alloc | apply pw_below_drewN | apply below_drew1 | refine below_set ?_ GE126.out) | exact HB.out)⟩⟩
            case round =>
              clear H'
              try clear c1
              try clear p1
              try clear q1
              try clear hx1
              try clear c2
              try clear c2b0
              try clear p2
              try clear c3
              try clear c3b0
              try clear c4
              try clear c4b0
              try clear hcz6_0
              try clear hcz6_1
              try clear hfz6_0
              try clear hfz6_1
              try clear hx125_0
              try clear hx125_1
              try clear p125
              try clear q125
              obtain ⟨x3_2, x4_2, rfl, HA, HK2, HO_3, BK126, HB⟩ := hrel
              cases gk with
              | zero => exact absurd HA.out (by simp [spec_LsSteps.l1])
              | succ k2 =>
                have H := HA.out
                clear HA
                simp only [spec_LsSteps.l1] at H
                by_cases c7 : x4_2 < ((rd_T33 l0 x9_1).f1)
                · rw [if_pos c7] at H
                  have c7b0 : decide (x4_2 < ((rd_T33 l0 x9_1).f1)) = true := decide_eq_true c7
                  clear c7
                  by_cases c8 : x3_2.length < 2932031007402
                  · rw [if_pos c8] at H
                    have LMc8 := Aside0.mk c8
                    clear c8
                    obtain ⟨y127, hy127⟩ : ∃ y_ : List (S38), y_ = (x3_2 ++ [(⟨2, (⟨#[]⟩ : ByteArray), ([] : List ByteArray)⟩ : S38)]) := ⟨_, rfl⟩
                    replace H : (spec_LsSteps.l1 k2 y127 (wrap64 (x4_2 + 1)) l0 (l0.length : Int) x9_1 ((rd_T33 l0 x9_1).f0) ((rd_T33 l0 x9_1).f1)) = some r := by first | (rw [hy127]; with_reducible exact H) | (have H2_ := (Option.bind_some _ _).symm.trans H; rw [hy127]; with_reducible exact H2_) | (have H2_ := (Option.bind_some _ _).symm.trans H; with_reducible exact H2_) | with_reducible exact H | (rw [hy127]; exact H) | exact H
                    have Ny127 := Aside0.mk hy127
                    clear hy127
                    have H' := Aside0.mk H
                    clear H
                    have hcz9_0 : wr.cell? ⟨gb126, 0, none⟩ = some (.string ((rd_T33 l0 x9_1).f0)) := (blk_cell BK126.out 0).trans rfl
                    have hcz9_1 : wr.cell? ⟨gb126, 1, none⟩ = some (.int .i64 ((rd_T33 l0 x9_1).f1)) := (blk_cell BK126.out 1).trans rfl
                    have hfz9_0 := blk_frozen BK126.out 0
                    have hfz9_1 := blk_frozen BK126.out 1
                    go_wp2_with (first | ((with_reducible refine gate_builtin (b := .append) (xs := #[.tmp 19, .tmp 21]) rfl ?_); at_builtin; refine Kd.S_append k38 (w0 := w) w.heap.size rfl (.tmp 19) (.tmp 21) 30 38 (.agg #[(.int .i64 0), (.string ⟨#[]⟩), (.slice none 0 0)]) 48 rfl Tryd.underlying30 info38 rfl (by decide) (by omega) u3 x3_2 (⟨2, (⟨#[]⟩ : ByteArray), ([] : List ByteArray)⟩ : S38) [.int .i64 2, .string (⟨#[]⟩ : ByteArray), .slice none 0 0] (fun _ => True) (fun _ => False) rfl rfl ?aP (fun k_ hk_ => hk_.elim) ?aF ?aO ?aB ?aS ?aL ?_; (case aP => exact k38_mkM _ _ _ (⟨2, (⟨#[]⟩ : ByteArray), ([] : List ByteArray)⟩ : S38) (Kd.R_nil _ _ _ _ _)); (case aB => exact (by repeat (first | (with_reducible first | exact HB.out | apply below_alloc | apply pw_below_drewN | apply below_drew1 | refine below_set ?_ GE126.out) | exact HB.out))); (case aF => exact (fun _ _ => trivial)); (case aO => exact (by (with_reducible repeat (first | apply Kd.S_alloc | apply Kd.S_drewN | apply Kd.S_drew)); exact Kd.S_mono HO_3.out (fun k_ hk => ⟨trivial, fun e_ => e_⟩))); (case aS => exact (below_size (by repeat (first | (with_reducible first | exact HB.out | apply below_alloc | apply pw_below_drewN | apply below_drew1 | refine below_set ?_ GE126.out) | exact HB.out)))); (case aL => have := LMc8.out; omega); intro v128 w10 ho hb hg hat; rw [← Ny127.out] at ho; have n0_ := Aside0.mk (blk_grown (g := gb126) (o := .cells #[.string ((rd_T33 l0 x9_1).f0), .int .i64 ((rd_T33 l0 x9_1).f1)] 33 (0, 0)) (by (with_reducible repeat (first | refine blk_drewN ?_ _ | refine blk_drew ?_ | refine blk_alloc ?_ _)); exact BK126.out) hg (Kd.S_ne HO_3.out BK126.out (by decide))); have n1_ := Aside0.mk (hb); have n2_ := Aside0.mk (ho); clear BK126; clear HB; clear HO_3; have BK126 := n0_; have HB := n1_; have HO129 := n2_; clear n0_ n1_ n2_; clear ho hb hg hat))
                    go_roundg k2
                    case measure => have := HK1.out; have := HK2.out; omega
                    case rel => exact ⟨(y127), (wrap64 (x4_2 + 1)), (by first | rfl | (simp; done) | (simp [*]; done)), H', ⟨by have := HK1.out; have := HK2.out; omega⟩, ⟨by (with_reducible repeat (first | apply Kd.S_alloc | apply Kd.S_drewN | apply Kd.S_drew)); exact HO129.out⟩, ⟨by (with_reducible repeat (first | refine blk_drewN ?_ _ | refine blk_drew ?_ | refine blk_alloc ?_ _)); exact BK126.out⟩, ⟨by repeat (first | (with_reducible first | exact HB.out | apply below_alloc | apply pw_below_drewN | apply below_drew1 | refine below_set ?_ GE126.out) | exact HB.out)⟩⟩
                  · rw [if_neg c8] at H
                    exact absurd H (by simp)
                · rw [if_neg c7] at H
                  have c7b0 : decide (x4_2 < ((rd_T33 l0 x9_1).f1)) = false := decide_eq_false c7
                  clear c7
                  have H' := Aside0.mk H
                  clear H
                  have hcz11_0 : wr.cell? ⟨gb126, 0, none⟩ = some (.string ((rd_T33 l0 x9_1).f0)) := (blk_cell BK126.out 0).trans rfl
                  have hcz11_1 : wr.cell? ⟨gb126, 1, none⟩ = some (.int .i64 ((rd_T33 l0 x9_1).f1)) := (blk_cell BK126.out 1).trans rfl
                  have hfz11_0 := blk_frozen BK126.out 0
                  have hfz11_1 := blk_frozen BK126.out 1
                  go_wp2
                  go_loopg [3, 4] k2 (fun kq v3 v4 w' => ∃ (x3_3 : List (S38)) (x4_3 : Int), v4 = .int .i64 x4_3 ∧ Aside0 (spec_LsSteps.l2 kq x3_3 x4_3 l0 (l0.length : Int) x9_1 ((rd_T33 l0 x9_1).f0) ((rd_T33 l0 x9_1).f1) = some r) ∧ Aside0 (kq ≤ k2) ∧ Aside0 (Kd.S k38 38 w' w.heap.size (fun _ => True) v3 x3_3) ∧ Aside0 (w'.heap[gb126]? = some (.cells #[.string ((rd_T33 l0 x9_1).f0), .int .i64 ((rd_T33 l0 x9_1).f1)] 33 (0, 0))) ∧ Aside0 (Below w.heap.size w w'))
                  case atStart => exact ⟨(x3_2), (x4_2), (by first | rfl | (simp; done) | (simp [*]; done)), H', ⟨Nat.le_refl _⟩, ⟨by (with_reducible repeat (first | apply Kd.S_alloc | apply Kd.S_drewN | apply Kd.S_drew)); exact HO_3.out⟩, ⟨by (with_reducible repeat (first | refine blk_drewN ?_ _ | refine blk_drew ?_ | refine blk_alloc ?_ _)); exact BK126.out⟩, ⟨by repeat (first | (with_reducible first | exact HB.out | apply below_alloc | apply pw_below_drewN | apply below_drew1 | refine below_set ?_ GE126.out) | exact HB.out)⟩⟩
                  case round =>
                    clear H'
                    try clear c1
                    try clear p1
                    try clear q1
                    try clear hx1
                    try clear c2
                    try clear c2b0
                    try clear p2
                    try clear c3
                    try clear c3b0
                    try clear c4
                    try clear c4b0
                    try clear p6
                    try clear c7
                    try clear c7b0
                    try clear c8
                    try clear hcz11_0
                    try clear hcz11_1
                    try clear hcz6_0
                    try clear hcz6_1
                    try clear hcz9_0
                    try clear hcz9_1
                    try clear hfz11_0
                    try clear hfz11_1
                    try clear hfz6_0
                    try clear hfz6_1
                    try clear hfz9_0
                    try clear hfz9_1
                    try clear hx125_0
                    try clear hx125_1
                    try clear p1
                    try clear p125
                    try clear p2
                    try clear q1
                    try clear q125
                    obtain ⟨x3_3, x4_3, rfl, HA, HK3, HO_3, BK126, HB⟩ := hrel
                    cases gk with
                    | zero => exact absurd HA.out (by simp [spec_LsSteps.l2])
                    | succ k3 =>
                      have H := HA.out
                      clear HA
                      simp only [spec_LsSteps.l2] at H
                      by_cases c12 : x4_3 > ((rd_T33 l0 x9_1).f1)
                      · rw [if_pos c12] at H
                        have c12b0 : decide (((rd_T33 l0 x9_1).f1) < x4_3) = true := decide_eq_true c12
                        clear c12
                        by_cases c13 : x3_3.length < 2932031007402
                        · rw [if_pos c13] at H
                          have LMc13 := Aside0.mk c13
                          clear c13
                          obtain ⟨y130, hy130⟩ : ∃ y_ : List (S38), y_ = (x3_3 ++ [(⟨3, (⟨#[]⟩ : ByteArray), ([] : List ByteArray)⟩ : S38)]) := ⟨_, rfl⟩
                          replace H : (spec_LsSteps.l2 k3 y130 (wrap64 (x4_3 - 1)) l0 (l0.length : Int) x9_1 ((rd_T33 l0 x9_1).f0) ((rd_T33 l0 x9_1).f1)) = some r := by first | (rw [hy130]; with_reducible exact H) | (have H2_ := (Option.bind_some _ _).symm.trans H; rw [hy130]; with_reducible exact H2_) | (have H2_ := (Option.bind_some _ _).symm.trans H; with_reducible exact H2_) | with_reducible exact H | (rw [hy130]; exact H) | exact H
                          have Ny130 := Aside0.mk hy130
                          clear hy130
                          have H' := Aside0.mk H
                          clear H
                          have hcz14_0 : wr.cell? ⟨gb126, 0, none⟩ = some (.string ((rd_T33 l0 x9_1).f0)) := (blk_cell BK126.out 0).trans rfl
                          have hcz14_1 : wr.cell? ⟨gb126, 1, none⟩ = some (.int .i64 ((rd_T33 l0 x9_1).f1)) := (blk_cell BK126.out 1).trans rfl
                          have hfz14_0 := blk_frozen BK126.out 0
                          have hfz14_1 := blk_frozen BK126.out 1
                          go_wp2_with (first | ((with_reducible refine gate_builtin (b := .append) (xs := #[.tmp 29, .tmp 31]) rfl ?_); at_builtin; refine Kd.S_append k38 (w0 := w) w.heap.size rfl (.tmp 29) (.tmp 31) 30 38 (.agg #[(.int .i64 0), (.string ⟨#[]⟩), (.slice none 0 0)]) 48 rfl Tryd.underlying30 info38 rfl (by decide) (by omega) u3 x3_3 (⟨3, (⟨#[]⟩ : ByteArray), ([] : List ByteArray)⟩ : S38) [.int .i64 3, .string (⟨#[]⟩ : ByteArray), .slice none 0 0] (fun _ => True) (fun _ => False) rfl rfl ?aP (fun k_ hk_ => hk_.elim) ?aF ?aO ?aB ?aS ?aL ?_; (case aP => exact k38_mkM _ _ _ (⟨3, (⟨#[]⟩ : ByteArray), ([] : List ByteArray)⟩ : S38) (Kd.R_nil _ _ _ _ _)); (case aB => exact (by repeat (first | (with_reducible first | exact HB.out | apply below_alloc | apply pw_below_drewN | apply below_drew1 | refine below_set ?_ GE126.out) | exact HB.out))); (case aF => exact (fun _ _ => trivial)); (case aO => exact (by (with_reducible repeat (first | apply Kd.S_alloc | apply Kd.S_drewN | apply Kd.S_drew)); exact Kd.S_mono HO_3.out (fun k_ hk => ⟨trivial, fun e_ => e_⟩))); (case aS => exact (below_size (by repeat (first | (with_reducible first | exact HB.out | apply below_alloc | apply pw_below_drewN | apply below_drew1 | refine below_set ?_ GE126.out) | exact HB.out)))); (case aL => have := LMc13.out; omega); intro v131 w15 ho hb hg hat; rw [← Ny130.out] at ho; have n0_ := Aside0.mk (blk_grown (g := gb126) (o := .cells #[.string ((rd_T33 l0 x9_1).f0), .int .i64 ((rd_T33 l0 x9_1).f1)] 33 (0, 0)) (by (with_reducible repeat (first | refine blk_drewN ?_ _ | refine blk_drew ?_ | refine blk_alloc ?_ _)); exact BK126.out) hg (Kd.S_ne HO_3.out BK126.out (by decide))); have n1_ := Aside0.mk (hb); have n2_ := Aside0.mk (ho); clear BK126; clear HB; clear HO_3; have BK126 := n0_; have HB := n1_; have HO132 := n2_; clear n0_ n1_ n2_; clear ho hb hg hat))
                          go_roundg k3
                          case measure => have := HK1.out; have := HK2.out; have := HK3.out; omega
                          case rel => exact ⟨(y130), (wrap64 (x4_3 - 1)), (by first | rfl | (simp; done) | (simp [*]; done)), H', ⟨by have := HK1.out; have := HK2.out; have := HK3.out; omega⟩, ⟨by (with_reducible repeat (first | apply Kd.S_alloc | apply Kd.S_drewN | apply Kd.S_drew)); exact HO132.out⟩, ⟨by (with_reducible repeat (first | refine blk_drewN ?_ _ | refine blk_drew ?_ | refine blk_alloc ?_ _)); exact BK126.out⟩, ⟨by repeat (first | (with_reducible first | exact HB.out | apply below_alloc | apply pw_below_drewN | apply below_drew1 | refine below_set ?_ GE126.out) | exact HB.out)⟩⟩
                        · rw [if_neg c13] at H
                          exact absurd H (by simp)
                      · rw [if_neg c12] at H
                        have c12b0 : decide (((rd_T33 l0 x9_1).f1) < x4_3) = false := decide_eq_false c12
                        clear c12
                        by_cases c16 : x3_3.length < 2932031007402
                        · rw [if_pos c16] at H
                          have LMc16 := Aside0.mk c16
                          clear c16
                          obtain ⟨y133, hy133⟩ : ∃ y_ : List (S38), y_ = (x3_3 ++ [(⟨0, ((rd_T33 l0 x9_1).f0), ([] : List ByteArray)⟩ : S38)]) := ⟨_, rfl⟩
                          replace H : (spec_LsSteps.l0 k3 y133 x4_3 l0 (l0.length : Int) (wrap64 (x9_1 + 1))) = some r := by first | (rw [hy133]; with_reducible exact H) | (have H2_ := (Option.bind_some _ _).symm.trans H; rw [hy133]; with_reducible exact H2_) | (have H2_ := (Option.bind_some _ _).symm.trans H; with_reducible exact H2_) | with_reducible exact H | (rw [hy133]; exact H) | exact H
                          have Ny133 := Aside0.mk hy133
                          clear hy133
                          have H' := Aside0.mk H
                          clear H
                          have hcz17_0 : wr.cell? ⟨gb126, 0, none⟩ = some (.string ((rd_T33 l0 x9_1).f0)) := (blk_cell BK126.out 0).trans rfl
                          have hcz17_1 : wr.cell? ⟨gb126, 1, none⟩ = some (.int .i64 ((rd_T33 l0 x9_1).f1)) := (blk_cell BK126.out 1).trans rfl
                          have hfz17_0 := blk_frozen BK126.out 0
                          have hfz17_1 := blk_frozen BK126.out 1
                          go_wp2_with (first | ((with_reducible refine gate_builtin (b := .append) (xs := #[.tmp 33, .tmp 37]) rfl ?_); at_builtin; refine Kd.S_append k38 (w0 := w) w.heap.size rfl (.tmp 33) (.tmp 37) 30 38 (.agg #[(.int .i64 0), (.string ⟨#[]⟩), (.slice none 0 0)]) 48 rfl Tryd.underlying30 info38 rfl (by decide) (by omega) u3 x3_3 (⟨0, ((rd_T33 l0 x9_1).f0), ([] : List ByteArray)⟩ : S38) [.int .i64 0, .string ((rd_T33 l0 x9_1).f0), .slice none 0 0] (fun _ => True) (fun _ => False) rfl rfl ?aP (fun k_ hk_ => hk_.elim) ?aF ?aO ?aB ?aS ?aL ?_; (case aP => exact k38_mkM _ _ _ (⟨0, ((rd_T33 l0 x9_1).f0), ([] : List ByteArray)⟩ : S38) (Kd.R_nil _ _ _ _ _)); (case aB => exact (by repeat (first | (with_reducible first | exact HB.out | apply below_alloc | apply pw_below_drewN | apply below_drew1 | refine below_set ?_ GE126.out) | exact HB.out))); (case aF => exact (fun _ _ => trivial)); (case aO => exact (by (with_reducible repeat (first | apply Kd.S_alloc | apply Kd.S_drewN | apply Kd.S_drew)); exact Kd.S_mono HO_3.out (fun k_ hk => ⟨trivial, fun e_ => e_⟩))); (case aS => exact (below_size (by repeat (first | (with_reducible first | exact HB.out | apply below_alloc | apply pw_below_drewN | apply below_drew1 | refine below_set ?_ GE126.out) | exact HB.out)))); (case aL => have := LMc16.out; omega); intro v134 w18 ho hb hg hat; rw [← Ny133.out] at ho; have n0_ := Aside0.mk (blk_grown (g := gb126) (o := .cells #[.string ((rd_T33 l0 x9_1).f0), .int .i64 ((rd_T33 l0 x9_1).f1)] 33 (0, 0)) (by (with_reducible repeat (first | refine blk_drewN ?_ _ | refine blk_drew ?_ | refine blk_alloc ?_ _)); exact BK126.out) hg (Kd.S_ne HO_3.out BK126.out (by decide))); have n1_ := Aside0.mk (hb); have n2_ := Aside0.mk (ho); clear BK126; clear HB; clear HO_3; have BK126 := n0_; have HB := n1_; have HO135 := n2_; clear n0_ n1_ n2_; clear ho hb hg hat))
                          go_roundg k3
                          case measure => have := HK1.out; have := HK2.out; have := HK3.out; omega
                          case rel => exact ⟨(y133), (x4_3), (wrap64 (x9_1 + 1)), (by first | rfl | (simp; done) | (simp [*]; done)), (by first | rfl | (simp; done) | (simp [*]; done)), H', ⟨by have := HK1.out; have := HK2.out; have := HK3.out; omega⟩, ⟨by (with_reducible repeat (first | apply Kd.S_alloc | apply Kd.S_drewN | apply Kd.S_drew)); exact HO135.out⟩, ⟨by repeat (first | (with_reducible first | exact HB.out | apply below_alloc | apply pw_below_drewN | apply below_drew1 | refine below_set ?_ GE126.out) | exact HB.out)⟩⟩
                        · rw [if_neg c16] at H
                          exact absurd H (by simp)
          · rw [if_neg c4] at H
            exact absurd H (by simp)
        · rw [if_neg c3] at H
          exact absurd H (by simp)
      · rw [if_neg c2] at H
        have c2b0 : decide (x9_1 < (l0.length : Int)) = false := decide_eq_false c2
        clear c2
        obtain rfl := Option.some.inj H
        go_wp2
        go_ret
        exact ⟨_, by first | rfl | (simp [errW_none, errW_some] <;> rfl) | (simp [*, errW_none, errW_some] <;> rfl), by (with_reducible repeat (first | apply Kd.S_alloc | apply Kd.S_drewN | apply Kd.S_drew)); exact HO_3.out, by repeat (first | (with_reducible first | exact HB.out | apply below_alloc | apply pw_below_drewN | apply below_drew1) | exact HB.out)⟩

/-! ### laws_zzFits4: function 13 -/
def laws_zzFits4.l0 : Nat → List ByteArray → Int → Int → Option (Bool)
  | 0, _, _, _ => none
  | k + 1, x8, x9, x10 => if x10 < x9 then (if 0 ≤ x10 then (if x10 < (x8.length : Int) then (if ((rdOf ByteArray.empty x8 x10).size : Int) > 2147483647 then (some false) else (laws_zzFits4.l0 k x8 x9 (wrap64 (x10 + 1)))) else (none)) else (none)) else (some true)
def laws_zzFits4.f (k : Nat) (l0 : List ByteArray) : Option (Bool) := if (l0.length : Int) > 2147483647 then (some false) else (laws_zzFits4.l0 k l0 (l0.length : Int) 0)
theorem laws_zzFits4.mono_l : ∀ k, (∀ y0 y1 y2, LeO (laws_zzFits4.l0 k y0 y1 y2) (laws_zzFits4.l0 (k + 1) y0 y1 y2))
  | 0 => fun _ _ _ r h => by simp [laws_zzFits4.l0] at h
  | k + 1 => by
    have ih0 := laws_zzFits4.mono_l k
    · intro y0 y1 y2
      unfold laws_zzFits4.l0
      repeat' first
      | (with_reducible exact ih0 _ _ _)
      | (with_reducible exact LeO.refl _)
      | (with_reducible exact LeO.none _)
      | (with_reducible refine LeO.ite ?_ ?_)
      | (with_reducible refine LeO.bind ?_ (fun _ => ?_))
      | exact ih0 _ _ _
      | exact LeO.none _
      | refine LeO.ite ?_ ?_
      | refine LeO.bind ?_ (fun _ => ?_)
theorem laws_zzFits4.mono : ∀ a0 k, LeO (laws_zzFits4.f k a0) (laws_zzFits4.f (k + 1) a0) := by
  intro a0 k
  have ih0 := laws_zzFits4.mono_l k
  unfold laws_zzFits4.f
  repeat' first
      | (with_reducible exact ih0 _ _ _)
      | (with_reducible exact LeO.refl _)
      | (with_reducible exact LeO.none _)
      | (with_reducible refine LeO.ite ?_ ?_)
      | (with_reducible refine LeO.bind ?_ (fun _ => ?_))
      | exact ih0 _ _ _
      | exact LeO.none _
      | refine LeO.ite ?_ ?_
      | refine LeO.bind ?_ (fun _ => ?_)
set_option maxHeartbeats 8000000 in
set_option maxRecDepth 100000 in
theorem laws_zzFits4.calls (k : Nat) (A0 : Option Addr) (c0 : Nat) (l0 : List ByteArray) (r : Bool) (w : World) (hr0 : Kd.C Kd.string w A0 l0.length l0) (hc0 : l0.length ≤ c0) (h : laws_zzFits4.f k l0 = some r) :
    Calls Tryd.prog 13 #[.slice A0 l0.length c0] w fun e w' => e = .returned (.bool r) ∧ Drawn0 w w' := by
  have HR0 := Aside0.mk hr0
  have HC0 := Aside0.mk hc0
  clear hr0 hc0
  have H : (if (l0.length : Int) > 2147483647 then (some false) else (laws_zzFits4.l0 k l0 (l0.length : Int) 0)) = some r := h
  clear h
  by_cases c2 : (l0.length : Int) > 2147483647
  · rw [if_pos c2] at H
    have c2b0 : decide (2147483647 < (l0.length : Int)) = true := decide_eq_true c2
    have c2b1 : decide (2147483647 < l0.length) = true := decide_eq_true (by omega)
    clear c2
    obtain rfl := Option.some.inj H
    go_enter Tryd.func13, Tryd.ntmps13
    go_wp2
    go_ret
    exact ⟨by first | rfl | (simp; done) | (simp [*]; done), by repeat (first | exact Drawn0.refl _ | apply Drawn0.step)⟩
  · rw [if_neg c2] at H
    have c2b0 : decide (2147483647 < (l0.length : Int)) = false := decide_eq_false c2
    have c2b1 : decide (2147483647 < l0.length) = false := decide_eq_false (by omega)
    clear c2
    have H' := Aside0.mk H
    clear H
    go_enter Tryd.func13, Tryd.ntmps13
    go_wp2
    go_loopg [10] k (fun kq v10 w' => ∃ (x10_1 : Int), v10 = .int .i64 x10_1 ∧ Aside0 (laws_zzFits4.l0 kq l0 (l0.length : Int) x10_1 = some r) ∧ Aside0 (kq ≤ k) ∧ Drawn0 w w')
    case atStart => exact ⟨(0), (by first | rfl | (simp; done) | (simp [*]; done)), H', ⟨Nat.le_refl _⟩, by repeat (first | exact Drawn0.refl _ | apply Drawn0.step)⟩
    case round =>
      clear H'
      try clear c1
      try clear c2
      try clear c2b0
      try clear c2b1
      try clear p2
      obtain ⟨x10_1, rfl, HA, HK1, ⟨m1, rfl⟩⟩ := hrel
      cases gk with
      | zero => exact absurd HA.out (by simp [laws_zzFits4.l0])
      | succ k1 =>
        have H := HA.out
        clear HA
        simp only [laws_zzFits4.l0] at H
        by_cases c3 : x10_1 < (l0.length : Int)
        · rw [if_pos c3] at H
          have c3b0 : decide (x10_1 < (l0.length : Int)) = true := decide_eq_true c3
          clear c3
          by_cases c4 : 0 ≤ x10_1
          · rw [if_pos c4] at H
            have c4b0 : decide (0 ≤ x10_1) = true := decide_eq_true c4
            clear c4
            by_cases c5 : x10_1 < (l0.length : Int)
            · rw [if_pos c5] at H
              have c5b0 : decide (x10_1 < (l0.length : Int)) = true := decide_eq_true c5
              clear c5
              by_cases c6 : ((rdOf ByteArray.empty l0 x10_1).size : Int) > 2147483647
              · rw [if_pos c6] at H
                have c6b0 : decide (2147483647 < ((rdOf ByteArray.empty l0 x10_1).size : Int)) = true := decide_eq_true c6
                have c6b1 : decide (2147483647 < (rdOf ByteArray.empty l0 x10_1).size) = true := decide_eq_true (by omega)
                clear c6
                obtain rfl := Option.some.inj H
                have p136 : 0 ≤ (x10_1 : Int) := of_decide_eq_true (by first | (with_reducible assumption) | assumption)
                have q136 : x10_1 < (l0.length : Int) := of_decide_eq_true (by first | (with_reducible assumption) | assumption)
                obtain ⟨ad136, e136, hx136_0⟩ := Kd.at_string HR0.out x10_1 p136 q136
                cases e136
                (try simp only [Go.IntWalk.toNatUp] at hx136_0)
                replace p136 := eq_true p136
                replace q136 := eq_true q136
                go_wp2
                go_ret
                exact ⟨by first | rfl | (simp; done) | (simp [*]; done), by repeat (first | exact Drawn0.refl _ | apply Drawn0.step)⟩
              · rw [if_neg c6] at H
                have c6b0 : decide (2147483647 < ((rdOf ByteArray.empty l0 x10_1).size : Int)) = false := decide_eq_false c6
                have c6b1 : decide (2147483647 < (rdOf ByteArray.empty l0 x10_1).size) = false := decide_eq_false (by omega)
                clear c6
                have H' := Aside0.mk H
                clear H
                have p136 : 0 ≤ (x10_1 : Int) := of_decide_eq_true (by first | (with_reducible assumption) | assumption)
                have q136 : x10_1 < (l0.length : Int) := of_decide_eq_true (by first | (with_reducible assumption) | assumption)
                obtain ⟨ad136, e136, hx136_0⟩ := Kd.at_string HR0.out x10_1 p136 q136
                cases e136
                (try simp only [Go.IntWalk.toNatUp] at hx136_0)
                replace p136 := eq_true p136
                replace q136 := eq_true q136
                go_wp2
                go_roundg k1
                case measure => have := HK1.out; omega
                case rel => exact ⟨(wrap64 (x10_1 + 1)), (by first | rfl | (simp; done) | (simp [*]; done)), H', ⟨by have := HK1.out; omega⟩, by repeat (first | exact Drawn0.refl _ | apply Drawn0.step)⟩
            · rw [if_neg c5] at H
              exact absurd H (by simp)
          · rw [if_neg c4] at H
            exact absurd H (by simp)
        · rw [if_neg c3] at H
          have c3b0 : decide (x10_1 < (l0.length : Int)) = false := decide_eq_false c3
          clear c3
          obtain rfl := Option.some.inj H
          go_wp2
          go_ret
          exact ⟨by first | rfl | (simp; done) | (simp [*]; done), by repeat (first | exact Drawn0.refl _ | apply Drawn0.step)⟩

-- BY HAND: function 15 (impl_ListLength)

/-! ### laws_lsAlive: function 16 -/
def laws_lsAlive.f  : Option (Bool) := (impl_ListRender.f (([(⟨0, (⟨#[97]⟩ : ByteArray), ([] : List ByteArray)⟩ : S38)] : List (S38))) 0 (⟨#[42]⟩ : ByteArray) (⟨#[]⟩ : ByteArray) (⟨#[]⟩ : ByteArray) (⟨#[]⟩ : ByteArray) (⟨#[]⟩ : ByteArray) (⟨#[]⟩ : ByteArray) (⟨#[10]⟩ : ByteArray) (⟨#[]⟩ : ByteArray)).bind fun t140 => (some (t140.toList == ([42, 32, 97] : List UInt8)))
set_option maxHeartbeats 8000000 in
set_option maxRecDepth 100000 in
theorem laws_lsAlive.calls  (r : Bool) (w : World) (h : laws_lsAlive.f  = some r) :
    Calls Tryd.prog 16 #[] w fun e w' => e = .returned (.bool r) ∧ Below w.heap.size w w' := by
  have hu38 := Tryd.underlying38
  have hu24 := Tryd.underlying24
  have HB := Aside0.mk (Below.refl w.heap.size w)
  have H : ((impl_ListRender.f (([(⟨0, (⟨#[97]⟩ : ByteArray), ([] : List ByteArray)⟩ : S38)] : List (S38))) 0 (⟨#[42]⟩ : ByteArray) (⟨#[]⟩ : ByteArray) (⟨#[]⟩ : ByteArray) (⟨#[]⟩ : ByteArray) (⟨#[]⟩ : ByteArray) (⟨#[]⟩ : ByteArray) (⟨#[10]⟩ : ByteArray) (⟨#[]⟩ : ByteArray)).bind fun t140 => (some (t140.toList == ([42, 32, 97] : List UInt8)))) = some r := h
  clear h
  obtain ⟨y137, hy137⟩ : ∃ y_ : List (S38), y_ = (([(⟨0, (⟨#[97]⟩ : ByteArray), ([] : List ByteArray)⟩ : S38)] : List (S38))) := ⟨_, rfl⟩
  replace H : ((impl_ListRender.f y137 0 (⟨#[42]⟩ : ByteArray) (⟨#[]⟩ : ByteArray) (⟨#[]⟩ : ByteArray) (⟨#[]⟩ : ByteArray) (⟨#[]⟩ : ByteArray) (⟨#[]⟩ : ByteArray) (⟨#[10]⟩ : ByteArray) (⟨#[]⟩ : ByteArray)).bind fun t140 => (some (t140.toList == ([42, 32, 97] : List UInt8)))) = some r := by first | (rw [hy137]; with_reducible exact H) | (have H2_ := (Option.bind_some _ _).symm.trans H; rw [hy137]; with_reducible exact H2_) | (have H2_ := (Option.bind_some _ _).symm.trans H; with_reducible exact H2_) | with_reducible exact H | (rw [hy137]; exact H) | exact H
  have Ny137 := Aside0.mk hy137
  clear hy137
  replace H := Option.bind_eq_some_iff.mp H
  obtain ⟨t140, A10, H⟩ := H
  replace H : (some (t140.toList == ([42, 32, 97] : List UInt8))) = some r := H
  have A1 := Aside0.mk A10
  clear A10
  obtain rfl := Option.some.inj H
  go_enter Tryd.func16, Tryd.ntmps16
  go_wp2_with (first | ((with_reducible refine gate_dst (N := 2) rfl ?_); refine Kd.S_lit k38 _ 38 ?hg (N := 2) ?hd (xs := ([(⟨0, (⟨#[97]⟩ : ByteArray), ([] : List ByteArray)⟩ : S38)] : List (S38))) (inner := [.int .i64 0, .string (⟨#[97]⟩ : ByteArray), .slice none 0 0]) (ok := fun _ => True) (okp := fun _ => True) ?hr ?hp (fun _ hk => hk) trivial (Below.refl _ _) (Nat.le_refl _) (by simp) ?_; (case hd => rfl); (case hg => rfl); (case hr => first | (go_simp; done) | (go_simp; rfl)); (case hp => exact (Reps.c3 (show Kd.M k38 _ _ _ (⟨0, (⟨#[97]⟩ : ByteArray), ([] : List ByteArray)⟩ : S38) [.int .i64 0, .string (⟨#[97]⟩ : ByteArray), .slice none 0 0] from (k38_mkM _ _ _ (⟨0, (⟨#[97]⟩ : ByteArray), ([] : List ByteArray)⟩ : S38) (Kd.R_nil _ _ _ _ _))) (Reps.none _ _))); intro v138 w2 ho3 hb hg_ hnew_; clear hg_ hnew_; (first | rw [← Ny137.out] at ho3 | (simp only [Int.reduceToNat] at ho3; rw [← Ny137.out] at ho3)); have n0_ := Aside0.mk (Kd.S_lower ho3 (below_size (by repeat (first | (with_reducible first | exact HB.out | apply below_alloc | apply pw_below_drewN | apply below_drew1) | exact HB.out)))); have n1_ := Aside0.mk (below_step (by repeat (first | (with_reducible first | exact HB.out | apply below_alloc | apply pw_below_drewN | apply below_drew1) | exact HB.out)) hb); clear HB; have HO139 := n0_; have HB := n1_; clear n0_ n1_; clear hb ho3; obtain ⟨Ao4, co4, eo4⟩ := Kd.S_slice HO139.out; subst eo4) | ((with_reducible refine gate_callee (f := 11) rfl ?_); refine goesL_ (some 4) rfl rfl Tryd.func11 (by kernel_rfl) rfl #[.slice Ao4 y137.length co4, .agg #[.int .i64 0, .string (⟨#[42]⟩ : ByteArray), .string (⟨#[]⟩ : ByteArray), .string (⟨#[]⟩ : ByteArray), .string (⟨#[]⟩ : ByteArray), .string (⟨#[]⟩ : ByteArray), .string (⟨#[]⟩ : ByteArray), .string (⟨#[10]⟩ : ByteArray), .string (⟨#[]⟩ : ByteArray)]] rfl (by (try simp only [List.map_toArray, List.map_cons, List.map_nil]); first | done | rfl | (simp only [List.length_drop, List.length_take]; rfl)) ?_; (with_reducible refine (impl_ListRender.calls _ _ y137 0 (⟨#[42]⟩ : ByteArray) (⟨#[]⟩ : ByteArray) (⟨#[]⟩ : ByteArray) (⟨#[]⟩ : ByteArray) (⟨#[]⟩ : ByteArray) (⟨#[]⟩ : ByteArray) (⟨#[10]⟩ : ByteArray) (⟨#[]⟩ : ByteArray) t140 _ ?side1 ?side2 A1.out).mono ?_); (case side1 => repeat (first | exact (Kd.S_reads' HO139.out).2.2 | (with_reducible refine Kd.C_alloc ?_ _) | (with_reducible refine Kd.C_drewN ?_ _) | (with_reducible refine Kd.C_drew ?_))); (case side2 => exact (Kd.S_reads' HO139.out).2.1); rintro e w5 ⟨rfl, hb⟩; refine ⟨_, rfl, ?_⟩; have n0_ := Aside0.mk (Kd.S_below (by (with_reducible repeat (first | apply Kd.S_alloc | apply Kd.S_drewN | apply Kd.S_drew)); exact HO139.out) hb); have n1_ := Aside0.mk (below_step (by repeat (first | (with_reducible first | exact HB.out | apply below_alloc | apply pw_below_drewN | apply below_drew1) | exact HB.out)) hb); clear HO139; clear HB; have HO139 := n0_; have HB := n1_; clear n0_ n1_; (try clear hb); (try clear hb2); (try clear hk); (try clear hi)))
  go_ret
  exact ⟨by first | rfl | (simp [errW_none, errW_some] <;> rfl) | (simp [*, errW_none, errW_some] <;> rfl), by repeat (first | (with_reducible first | exact HB.out | apply below_alloc | apply pw_below_drewN | apply below_drew1) | exact HB.out)⟩

-- NOT PRINTED: function 4 (laws_FnListItems)

end Go.Proofs.YtmakcmggicedfaaDoor.PFnListItems
