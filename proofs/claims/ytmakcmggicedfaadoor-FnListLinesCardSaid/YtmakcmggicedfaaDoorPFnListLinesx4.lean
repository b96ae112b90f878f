-- Written by hprint.py, a program of this session
import Derived.Test.YtmakcmggicedfaaDoorPFnListLinesx0
import Derived.Test.YtmakcmggicedfaaDoorPFnListLinesx1
import Derived.Test.YtmakcmggicedfaaDoorPFnListLinesx2
import Derived.Test.YtmakcmggicedfaaDoorPFnListLinesx3
namespace Go.Proofs.YtmakcmggicedfaaDoor.PFnListLines
open Go.RowKit Go.Proofs.YtmakcmggicedfaaDoor.Hand Go.Proofs.YtmakcmggicedfaaDoorW.PrintWords Go.Proofs.YtmakcmggicedfaaDoorW.PrintLast Go.Proofs.YtmakcmggicedfaaDoorW.PrintMore
attribute [local go_sem] max2_int min2_int max_two min_two max_three min_three max_four min_four   -- for this text's walks alone
set_option linter.unusedVariables false
set_option linter.unusedSimpArgs false

/-! ### laws_FnListLines: function 3 -/
mutual
def laws_FnListLines.j0 : Nat → List (S33) → Bool → Int → ByteArray → ByteArray → ByteArray → ByteArray → ByteArray → ByteArray → ByteArray → ByteArray → Option (Bool)
  | 0, _, _, _, _, _, _, _, _, _, _, _ => none
  | k + 1, x0, x16, x146000, x146001, x146002, x146003, x146004, x146005, x146006, x146007, x146008 => if x16 = true then (some true) else ((spec_LsRight.f k x0).bind fun t148 => (if t148 = true then (if (x0.length : Int) = 0 then (laws_FnListLines.j1 k x0 true x146000 x146001 x146002 x146003 x146004 x146005 x146006 x146007 x146008) else ((spec_LsStyled.f k x146000 x146001 x146002 x146003 x146004 x146005 x146006 x146007 x146008).bind fun t149 => (laws_FnListLines.j1 k x0 (!t149) x146000 x146001 x146002 x146003 x146004 x146005 x146006 x146007 x146008))) else (laws_FnListLines.j1 k x0 true x146000 x146001 x146002 x146003 x146004 x146005 x146006 x146007 x146008)))
def laws_FnListLines.j1 : Nat → List (S33) → Bool → Int → ByteArray → ByteArray → ByteArray → ByteArray → ByteArray → ByteArray → ByteArray → ByteArray → Option (Bool)
  | 0, _, _, _, _, _, _, _, _, _, _, _ => none
  | k + 1, x0, x29, x146000, x146001, x146002, x146003, x146004, x146005, x146006, x146007, x146008 => if x29 = true then (some true) else ((spec_LsSteps.f k x0).bind fun t150 => ((impl_ListRender.f t150 x146000 x146001 x146002 x146003 x146004 x146005 x146006 x146007 x146008).bind fun t153 => ((spec_TxLines.f k t153).bind fun t154 => (if (t154.length : Int) = (x0.length : Int) then (laws_FnListLines.l0 k t154 x0 (x0.length : Int) 0) else (some false)))))
def laws_FnListLines.l0 : Nat → List ByteArray → List (S33) → Int → Int → Option (Bool)
  | 0, _, _, _, _ => none
  | k + 1, x5, x40, x41, x42 => if x42 < x41 then (if 0 ≤ x42 then (if x42 < (x40.length : Int) then (if x42 < (x5.length : Int) then (if (wrap64 (((rdOf ByteArray.empty x5 x42).size : Int) - (((rd_T33 x40 x42).f0).size : Int))) < 0 then (some false) else (if 0 ≤ (wrap64 (((rdOf ByteArray.empty x5 x42).size : Int) - (((rd_T33 x40 x42).f0).size : Int))) then (if (wrap64 (((rdOf ByteArray.empty x5 x42).size : Int) - (((rd_T33 x40 x42).f0).size : Int))) ≤ ((rdOf ByteArray.empty x5 x42).size : Int) then (if ((rdOf ByteArray.empty x5 x42).extract ((wrap64 (((rdOf ByteArray.empty x5 x42).size : Int) - (((rd_T33 x40 x42).f0).size : Int))) : Int).toNat (rdOf ByteArray.empty x5 x42).size).toList = ((rd_T33 x40 x42).f0).toList then (laws_FnListLines.l0 k x5 x40 x41 (wrap64 (x42 + 1))) else (some false)) else (none)) else (none))) else (none)) else (none)) else (none)) else (some true)
end
def laws_FnListLines.f (k : Nat) (l0 : List (S33)) (a1_0 : Int) (a1_1 : ByteArray) (a1_2 : ByteArray) (a1_3 : ByteArray) (a1_4 : ByteArray) (a1_5 : ByteArray) (a1_6 : ByteArray) (a1_7 : ByteArray) (a1_8 : ByteArray) : Option (Bool) := (laws_zzFits1.f k l0).bind fun t146 => (if t146 = true then ((laws_zzFits3.f a1_0 a1_1 a1_2 a1_3 a1_4 a1_5 a1_6 a1_7 a1_8).bind fun t147 => (laws_FnListLines.j0 k l0 (!t147) a1_0 a1_1 a1_2 a1_3 a1_4 a1_5 a1_6 a1_7 a1_8)) else (laws_FnListLines.j0 k l0 true a1_0 a1_1 a1_2 a1_3 a1_4 a1_5 a1_6 a1_7 a1_8))
theorem laws_FnListLines.mono_l : ∀ k, (∀ y0 y1 y2 y3 y4 y5 y6 y7 y8 y9 y10, LeO (laws_FnListLines.j0 k y0 y1 y2 y3 y4 y5 y6 y7 y8 y9 y10) (laws_FnListLines.j0 (k + 1) y0 y1 y2 y3 y4 y5 y6 y7 y8 y9 y10)) ∧ (∀ y0 y1 y2 y3 y4 y5 y6 y7 y8 y9 y10, LeO (laws_FnListLines.j1 k y0 y1 y2 y3 y4 y5 y6 y7 y8 y9 y10) (laws_FnListLines.j1 (k + 1) y0 y1 y2 y3 y4 y5 y6 y7 y8 y9 y10)) ∧ (∀ y0 y1 y2 y3, LeO (laws_FnListLines.l0 k y0 y1 y2 y3) (laws_FnListLines.l0 (k + 1) y0 y1 y2 y3))
  | 0 => ⟨fun _ _ _ _ _ _ _ _ _ _ _ r h => by simp [laws_FnListLines.j0] at h, fun _ _ _ _ _ _ _ _ _ _ _ r h => by simp [laws_FnListLines.j1] at h, fun _ _ _ _ r h => by simp [laws_FnListLines.l0] at h⟩
  | k + 1 => by
    obtain ⟨ih0, ih1, ih2⟩ := laws_FnListLines.mono_l k
    refine ⟨?_, ?_, ?_⟩
    · intro y0 y1 y2 y3 y4 y5 y6 y7 y8 y9 y10
      unfold laws_FnListLines.j0
      repeat' first
      | (with_reducible exact ih0 _ _ _ _ _ _ _ _ _ _ _)
      | (with_reducible exact ih1 _ _ _ _ _ _ _ _ _ _ _)
      | (with_reducible exact ih2 _ _ _ _)
      | (with_reducible exact laws_zzFits1.mono _ _)
      | (with_reducible exact spec_LsRight.mono _ _)
      | (with_reducible exact spec_LsSteps.mono _ _)
      | (with_reducible exact spec_LsStyled.mono _ _ _ _ _ _ _ _ _ _)
      | (with_reducible exact spec_TxLines.mono _ _)
      | (with_reducible exact LeO.refl _)
      | (with_reducible exact LeO.none _)
      | (with_reducible refine LeO.ite ?_ ?_)
      | (with_reducible refine LeO.bind ?_ (fun _ => ?_))
      | exact ih0 _ _ _ _ _ _ _ _ _ _ _
      | exact ih1 _ _ _ _ _ _ _ _ _ _ _
      | exact ih2 _ _ _ _
      | exact laws_zzFits1.mono _ _
      | exact spec_LsRight.mono _ _
      | exact spec_LsSteps.mono _ _
      | exact spec_LsStyled.mono _ _ _ _ _ _ _ _ _ _
      | exact spec_TxLines.mono _ _
      | exact LeO.none _
      | refine LeO.ite ?_ ?_
      | refine LeO.bind ?_ (fun _ => ?_)
    · intro y0 y1 y2 y3 y4 y5 y6 y7 y8 y9 y10
      unfold laws_FnListLines.j1
      repeat' first
      | (with_reducible exact ih0 _ _ _ _ _ _ _ _ _ _ _)
      | (with_reducible exact ih1 _ _ _ _ _ _ _ _ _ _ _)
      | (with_reducible exact ih2 _ _ _ _)
      | (with_reducible exact laws_zzFits1.mono _ _)
      | (with_reducible exact spec_LsRight.mono _ _)
      | (with_reducible exact spec_LsSteps.mono _ _)
      | (with_reducible exact spec_LsStyled.mono _ _ _ _ _ _ _ _ _ _)
      | (with_reducible exact spec_TxLines.mono _ _)
      | (with_reducible exact LeO.refl _)
      | (with_reducible exact LeO.none _)
      | (with_reducible refine LeO.ite ?_ ?_)
      | (with_reducible refine LeO.bind ?_ (fun _ => ?_))
      | exact ih0 _ _ _ _ _ _ _ _ _ _ _
      | exact ih1 _ _ _ _ _ _ _ _ _ _ _
      | exact ih2 _ _ _ _
      | exact laws_zzFits1.mono _ _
      | exact spec_LsRight.mono _ _
      | exact spec_LsSteps.mono _ _
      | exact spec_LsStyled.mono _ _ _ _ _ _ _ _ _ _
      | exact spec_TxLines.mono _ _
      | exact LeO.none _
      | refine LeO.ite ?_ ?_
      | refine LeO.bind ?_ (fun _ => ?_)
    · intro y0 y1 y2 y3
      unfold laws_FnListLines.l0
      repeat' first
      | (with_reducible exact ih0 _ _ _ _ _ _ _ _ _ _ _)
      | (with_reducible exact ih1 _ _ _ _ _ _ _ _ _ _ _)
      | (with_reducible exact ih2 _ _ _ _)
      | (with_reducible exact laws_zzFits1.mono _ _)
      | (with_reducible exact spec_LsRight.mono _ _)
      | (with_reducible exact spec_LsSteps.mono _ _)
      | (with_reducible exact spec_LsStyled.mono _ _ _ _ _ _ _ _ _ _)
      | (with_reducible exact spec_TxLines.mono _ _)
      | (with_reducible exact LeO.refl _)
      | (with_reducible exact LeO.none _)
      | (with_reducible refine LeO.ite ?_ ?_)
      | (with_reducible refine LeO.bind ?_ (fun _ => ?_))
      | exact ih0 _ _ _ _ _ _ _ _ _ _ _
      | exact ih1 _ _ _ _ _ _ _ _ _ _ _
      | exact ih2 _ _ _ _
      | exact laws_zzFits1.mono _ _
      | exact spec_LsRight.mono _ _
      | exact spec_LsSteps.mono _ _
      | exact spec_LsStyled.mono _ _ _ _ _ _ _ _ _ _
      | exact spec_TxLines.mono _ _
      | exact LeO.none _
      | refine LeO.ite ?_ ?_
      | refine LeO.bind ?_ (fun _ => ?_)
theorem laws_FnListLines.mono : ∀ a0 a1 a2 a3 a4 a5 a6 a7 a8 a9 k, LeO (laws_FnListLines.f k a0 a1 a2 a3 a4 a5 a6 a7 a8 a9) (laws_FnListLines.f (k + 1) a0 a1 a2 a3 a4 a5 a6 a7 a8 a9) := by
  intro a0 a1 a2 a3 a4 a5 a6 a7 a8 a9 k
  obtain ⟨ih0, ih1, ih2⟩ := laws_FnListLines.mono_l k
  unfold laws_FnListLines.f
  repeat' first
      | (with_reducible exact ih0 _ _ _ _ _ _ _ _ _ _ _)
      | (with_reducible exact ih1 _ _ _ _ _ _ _ _ _ _ _)
      | (with_reducible exact ih2 _ _ _ _)
      | (with_reducible exact laws_zzFits1.mono _ _)
      | (with_reducible exact spec_LsRight.mono _ _)
      | (with_reducible exact spec_LsSteps.mono _ _)
      | (with_reducible exact spec_LsStyled.mono _ _ _ _ _ _ _ _ _ _)
      | (with_reducible exact spec_TxLines.mono _ _)
      | (with_reducible exact LeO.refl _)
      | (with_reducible exact LeO.none _)
      | (with_reducible refine LeO.ite ?_ ?_)
      | (with_reducible refine LeO.bind ?_ (fun _ => ?_))
      | exact ih0 _ _ _ _ _ _ _ _ _ _ _
      | exact ih1 _ _ _ _ _ _ _ _ _ _ _
      | exact ih2 _ _ _ _
      | exact laws_zzFits1.mono _ _
      | exact spec_LsRight.mono _ _
      | exact spec_LsSteps.mono _ _
      | exact spec_LsStyled.mono _ _ _ _ _ _ _ _ _ _
      | exact spec_TxLines.mono _ _
      | exact LeO.none _
      | refine LeO.ite ?_ ?_
      | refine LeO.bind ?_ (fun _ => ?_)
def laws_FnListLines.T11 : Bool × List (List Nat × List Nat) := (true, [([], []), ([], []), ([0, 1], [0, 1]), ([2], [2]), ([3], [3]), ([], []), ([5], [5]), ([6], [6]), ([4, 7], [4, 7]), ([8, 0, 1, 2, 3, 4, 5, 6, 7, 8], [8])])
def laws_FnListLines.B11 : List Nat := [0, 0, 3, 7, 15, 0, 32, 96, 255, 511]
theorem laws_FnListLines.tab11 : rtab .any (opsOf Tryd.f3 11) = laws_FnListLines.T11 := by kernel_rfl
theorem laws_FnListLines.bits11 : waitsOk laws_FnListLines.T11.2 laws_FnListLines.B11 = true := by kernel_rfl
def laws_FnListLines.T12 : Bool × List (List Nat × List Nat) := (true, [([], []), ([0], [0]), ([1], [1]), ([2], [2]), ([2], [2]), ([3, 4, 2], [2, 3, 4]), ([5, 2], [2, 5]), ([2], [2]), ([6, 7, 2], [2, 6, 7]), ([2], [2]), ([9, 2], [2, 9]), ([8, 10, 2], [2, 8, 10]), ([2, 11], [2, 11])])
def laws_FnListLines.B12 : List Nat := [0, 1, 3, 7, 7, 31, 63, 7, 255, 7, 519, 2047, 4095]
theorem laws_FnListLines.tab12 : rtab .any (opsOf Tryd.f3 12) = laws_FnListLines.T12 := by kernel_rfl
theorem laws_FnListLines.bits12 : waitsOk laws_FnListLines.T12.2 laws_FnListLines.B12 = true := by kernel_rfl
set_option maxHeartbeats 8000000 in
set_option maxRecDepth 100000 in
theorem laws_FnListLines.calls (k : Nat) (A0 : Option Addr) (c0 : Nat) (l0 : List (S33)) (a1_0 : Int) (a1_1 : ByteArray) (a1_2 : ByteArray) (a1_3 : ByteArray) (a1_4 : ByteArray) (a1_5 : ByteArray) (a1_6 : ByteArray) (a1_7 : ByteArray) (a1_8 : ByteArray) (r : Bool) (w : World) (hr0 : Kd.C k33 w A0 l0.length l0) (hc0 : l0.length ≤ c0) (h : laws_FnListLines.f k l0 a1_0 a1_1 a1_2 a1_3 a1_4 a1_5 a1_6 a1_7 a1_8 = some r) :
    Calls Tryd.prog 3 #[.slice A0 l0.length c0, .agg #[.int .i64 a1_0, .string a1_1, .string a1_2, .string a1_3, .string a1_4, .string a1_5, .string a1_6, .string a1_7, .string a1_8]] w fun e w' => e = .returned (.bool r) ∧ Below w.heap.size w w' := by
  have hu24 := Tryd.underlying24
  have hu33 := Tryd.underlying33
  have HR0 := Aside0.mk hr0
  have HC0 := Aside0.mk hc0
  clear hr0 hc0
  have HB := Aside0.mk (Below.refl w.heap.size w)
  have H : ((laws_zzFits1.f k l0).bind fun t146 => (if t146 = true then ((laws_zzFits3.f a1_0 a1_1 a1_2 a1_3 a1_4 a1_5 a1_6 a1_7 a1_8).bind fun t147 => (laws_FnListLines.j0 k l0 (!t147) a1_0 a1_1 a1_2 a1_3 a1_4 a1_5 a1_6 a1_7 a1_8)) else (laws_FnListLines.j0 k l0 true a1_0 a1_1 a1_2 a1_3 a1_4 a1_5 a1_6 a1_7 a1_8))) = some r := h
  clear h
  have HC3 := Aside0.mk H
  clear H
  go_enter Tryd.func3, Tryd.ntmps3
  go_upto_region 1 with (first | ((with_reducible refine gate_dst (N := 3) rfl ?_); (try (refine gate_guard (by rfl) ?_; dsimp only)); refine box_event ?hg (N := 3) ?hd (cs := #[.int .i64 a1_0, .string a1_1, .string a1_2, .string a1_3, .string a1_4, .string a1_5, .string a1_6, .string a1_7, .string a1_8]) (t := 24) ?hr ?_; (case hd => rfl); (case hg => rfl); (case hr => first | (go_simp; done) | (go_simp; rfl)); intro gb145 hg w4 hbox hb; have n0_ := Aside0.mk (below_step (by repeat (first | (with_reducible first | exact HB.out | apply below_alloc | apply pw_below_drewN | apply below_drew1) | exact HB.out)) hb); have n1_ := Aside0.mk (hbox); have n2_ := Aside0.mk ((by rw [hg]; exact (below_size (by repeat (first | (with_reducible first | exact HB.out | apply below_alloc | apply pw_below_drewN | apply below_drew1) | exact HB.out))) : w.heap.size ≤ gb145)); have n3_ := Aside0.mk ((by rw [hg]; exact (below_size (by repeat (first | (with_reducible first | exact HB.out | apply below_alloc | apply pw_below_drewN | apply below_drew1) | exact HB.out))) : w.heap.size ≤ gb145)); clear HB; have HB := n0_; have BK145 := n1_; have GW145 := n2_; have GE145 := n3_; clear n0_ n1_ n2_ n3_; clear hb hbox hg))
  (try simp only [Act.put, List.setIfInBounds_toArray, List.set_cons_zero, List.set_cons_succ])
  go_cut [16] (fun v16 wc => ∃ (kq : Nat) (x16_2 : Bool), v16 = .bool x16_2 ∧ Aside0 (laws_FnListLines.j0 kq l0 x16_2 a1_0 a1_1 a1_2 a1_3 a1_4 a1_5 a1_6 a1_7 a1_8 = some r) ∧ Aside0 (kq ≤ k) ∧ Aside0 (wc.heap[gb145]? = some (.cells #[.int .i64 a1_0, .string a1_1, .string a1_2, .string a1_3, .string a1_4, .string a1_5, .string a1_6, .string a1_7, .string a1_8] 24 (0, 0))) ∧ Aside0 (Below w.heap.size w wc))
  case first =>
    have H := HC3.out
    clear HC3
    replace H := Option.bind_eq_some_iff.mp H
    obtain ⟨t146, A50, H⟩ := H
    replace H : (if t146 = true then ((laws_zzFits3.f a1_0 a1_1 a1_2 a1_3 a1_4 a1_5 a1_6 a1_7 a1_8).bind fun t147 => (laws_FnListLines.j0 k l0 (!t147) a1_0 a1_1 a1_2 a1_3 a1_4 a1_5 a1_6 a1_7 a1_8)) else (laws_FnListLines.j0 k l0 true a1_0 a1_1 a1_2 a1_3 a1_4 a1_5 a1_6 a1_7 a1_8)) = some r := H
    have A5 := Aside0.mk A50
    clear A50
    by_cases c6 : t146 = true
    · subst c6
      have H1 : ((laws_zzFits3.f a1_0 a1_1 a1_2 a1_3 a1_4 a1_5 a1_6 a1_7 a1_8).bind fun t147 => (laws_FnListLines.j0 k l0 (!t147) a1_0 a1_1 a1_2 a1_3 a1_4 a1_5 a1_6 a1_7 a1_8)) = some r := by rw [if_pos rfl] at H; exact H
      clear H
      have H := H1
      clear H1
      replace H := Option.bind_eq_some_iff.mp H
      obtain ⟨t147, A70, H⟩ := H
      replace H : (laws_FnListLines.j0 k l0 (!t147) a1_0 a1_1 a1_2 a1_3 a1_4 a1_5 a1_6 a1_7 a1_8) = some r := H
      have A7 := Aside0.mk A70
      clear A70
      have H' := Aside0.mk H
      clear H
      go_wp2_with (first | ((with_reducible refine gate_callee (f := 6) rfl ?_); refine goesL_ (some 10) rfl rfl Tryd.func6 (by kernel_rfl) rfl #[.slice A0 l0.length c0] rfl (by (try simp only [List.map_toArray, List.map_cons, List.map_nil]); first | done | rfl | (simp only [List.length_drop, List.length_take]; rfl)) ?_; (with_reducible refine (laws_zzFits1.calls k _ _ l0 true _ ?side1 ?side2 A5.out).mono ?_); (case side1 => repeat (first | exact (Kd.C_below HR0.out HB.out) | (with_reducible refine Kd.C_alloc ?_ _) | (with_reducible refine Kd.C_drewN ?_ _) | (with_reducible refine Kd.C_drew ?_))); (case side2 => exact HC0.out); rintro e w8 ⟨rfl, hb⟩; refine ⟨_, rfl, ?_⟩; have n0_ := Aside0.mk (blk_below (g := gb145) (o := .cells #[.int .i64 a1_0, .string a1_1, .string a1_2, .string a1_3, .string a1_4, .string a1_5, .string a1_6, .string a1_7, .string a1_8] 24 (0, 0)) (by (with_reducible repeat (first | refine blk_drewN ?_ _ | refine blk_drew ?_ | refine blk_alloc ?_ _)); exact BK145.out) hb); have n1_ := Aside0.mk (below_step (by repeat (first | (with_reducible first | exact HB.out | apply below_alloc | apply pw_below_drewN | apply below_drew1 | refine below_set ?_ GE145.out) | exact HB.out)) hb); clear BK145; clear HB; have BK145 := n0_; have HB := n1_; clear n0_ n1_; (try clear hb); (try clear hb2); (try clear hk); (try clear hi); have hcz9_0 : w8.cell? ⟨gb145, 0, none⟩ = some (.int .i64 a1_0) := (blk_cell BK145.out 0).trans rfl; have hcz9_1 : w8.cell? ⟨gb145, 1, none⟩ = some (.string a1_1) := (blk_cell BK145.out 1).trans rfl; have hcz9_2 : w8.cell? ⟨gb145, 2, none⟩ = some (.string a1_2) := (blk_cell BK145.out 2).trans rfl; have hcz9_3 : w8.cell? ⟨gb145, 3, none⟩ = some (.string a1_3) := (blk_cell BK145.out 3).trans rfl; have hcz9_4 : w8.cell? ⟨gb145, 4, none⟩ = some (.string a1_4) := (blk_cell BK145.out 4).trans rfl; have hcz9_5 : w8.cell? ⟨gb145, 5, none⟩ = some (.string a1_5) := (blk_cell BK145.out 5).trans rfl; have hcz9_6 : w8.cell? ⟨gb145, 6, none⟩ = some (.string a1_6) := (blk_cell BK145.out 6).trans rfl; have hcz9_7 : w8.cell? ⟨gb145, 7, none⟩ = some (.string a1_7) := (blk_cell BK145.out 7).trans rfl; have hcz9_8 : w8.cell? ⟨gb145, 8, none⟩ = some (.string a1_8) := (blk_cell BK145.out 8).trans rfl; have hfz9_0 := blk_frozen BK145.out 0; have hfz9_1 := blk_frozen BK145.out 1; have hfz9_2 := blk_frozen BK145.out 2; have hfz9_3 := blk_frozen BK145.out 3; have hfz9_4 := blk_frozen BK145.out 4; have hfz9_5 := blk_frozen BK145.out 5; have hfz9_6 := blk_frozen BK145.out 6; have hfz9_7 := blk_frozen BK145.out 7; have hfz9_8 := blk_frozen BK145.out 8) | (go_at_call 7; (with_reducible refine (laws_zzFits3.calls a1_0 a1_1 a1_2 a1_3 a1_4 a1_5 a1_6 a1_7 a1_8 t147 _ A7.out).mono ?_); rintro e w10 ⟨rfl, hb⟩; have n0_ := Aside0.mk (blk_below (g := gb145) (o := .cells #[.int .i64 a1_0, .string a1_1, .string a1_2, .string a1_3, .string a1_4, .string a1_5, .string a1_6, .string a1_7, .string a1_8] 24 (0, 0)) (by (with_reducible repeat (first | refine blk_drewN ?_ _ | refine blk_drew ?_ | refine blk_alloc ?_ _)); exact BK145.out) hb); have n1_ := Aside0.mk (below_step (by repeat (first | (with_reducible first | exact HB.out | apply below_alloc | apply pw_below_drewN | apply below_drew1 | refine below_set ?_ GE145.out) | exact HB.out)) hb); clear BK145; clear HB; have BK145 := n0_; have HB := n1_; clear n0_ n1_; (try clear hb); (try clear hb2); (try clear hk); (try clear hi)))
      go_meet
      case rel => exact ⟨_, (!t147), (by first | rfl | (simp; done) | (simp [*]; done)), H', ⟨by first | omega | exact Nat.le_refl _⟩, ⟨by (with_reducible repeat (first | refine blk_drewN ?_ _ | refine blk_drew ?_ | refine blk_alloc ?_ _)); exact BK145.out⟩, ⟨by repeat (first | (with_reducible first | exact HB.out | apply below_alloc | apply pw_below_drewN | apply below_drew1 | refine below_set ?_ GE145.out) | exact HB.out)⟩⟩
    · replace c6 := Bool.eq_false_iff.mpr c6
      subst c6
      have H1 : (laws_FnListLines.j0 k l0 true a1_0 a1_1 a1_2 a1_3 a1_4 a1_5 a1_6 a1_7 a1_8) = some r := by rw [if_neg (show ¬ (false = true) by decide)] at H; exact H
      clear H
      have H := H1
      clear H1
      have H' := Aside0.mk H
      clear H
      go_wp2_with (first | ((with_reducible refine gate_callee (f := 6) rfl ?_); refine goesL_ (some 10) rfl rfl Tryd.func6 (by kernel_rfl) rfl #[.slice A0 l0.length c0] rfl (by (try simp only [List.map_toArray, List.map_cons, List.map_nil]); first | done | rfl | (simp only [List.length_drop, List.length_take]; rfl)) ?_; (with_reducible refine (laws_zzFits1.calls k _ _ l0 false _ ?side1 ?side2 A5.out).mono ?_); (case side1 => repeat (first | exact (Kd.C_below HR0.out HB.out) | (with_reducible refine Kd.C_alloc ?_ _) | (with_reducible refine Kd.C_drewN ?_ _) | (with_reducible refine Kd.C_drew ?_))); (case side2 => exact HC0.out); rintro e w11 ⟨rfl, hb⟩; refine ⟨_, rfl, ?_⟩; have n0_ := Aside0.mk (blk_below (g := gb145) (o := .cells #[.int .i64 a1_0, .string a1_1, .string a1_2, .string a1_3, .string a1_4, .string a1_5, .string a1_6, .string a1_7, .string a1_8] 24 (0, 0)) (by (with_reducible repeat (first | refine blk_drewN ?_ _ | refine blk_drew ?_ | refine blk_alloc ?_ _)); exact BK145.out) hb); have n1_ := Aside0.mk (below_step (by repeat (first | (with_reducible first | exact HB.out | apply below_alloc | apply pw_below_drewN | apply below_drew1 | refine below_set ?_ GE145.out) | exact HB.out)) hb); clear BK145; clear HB; have BK145 := n0_; have HB := n1_; clear n0_ n1_; (try clear hb); (try clear hb2); (try clear hk); (try clear hi)))
      go_meet
      case rel => exact ⟨_, (true), (by first | rfl | (simp; done) | (simp [*]; done)), H', ⟨by first | omega | exact Nat.le_refl _⟩, ⟨by (with_reducible repeat (first | refine blk_drewN ?_ _ | refine blk_drew ?_ | refine blk_alloc ?_ _)); exact BK145.out⟩, ⟨by repeat (first | (with_reducible first | exact HB.out | apply below_alloc | apply pw_below_drewN | apply below_drew1 | refine below_set ?_ GE145.out) | exact HB.out)⟩⟩
  case rest =>
    clear HC3
    try clear p2
    try clear c3
    try clear c6
    try clear hcz9_0
    try clear hcz9_1
    try clear hcz9_2
    try clear hcz9_3
    try clear hcz9_4
    try clear hcz9_5
    try clear hcz9_6
    try clear hcz9_7
    try clear hcz9_8
    try clear hfz9_0
    try clear hfz9_1
    try clear hfz9_2
    try clear hfz9_3
    try clear hfz9_4
    try clear hfz9_5
    try clear hfz9_6
    try clear hfz9_7
    try clear hfz9_8
    obtain ⟨kq, x16_2, rfl, HA, HJ2, BK145, HB⟩ := hcut
    cases kq with
    | zero => exact absurd HA.out (by simp [laws_FnListLines.j0])
    | succ kj2 =>
      have H := HA.out
      clear HA
      simp only [laws_FnListLines.j0] at H
      by_cases c12 : x16_2 = true
      · subst c12
        have H1 : (some true) = some r := by rw [if_pos rfl] at H; exact H
        clear H
        have H := H1
        clear H1
        obtain rfl := Option.some.inj H
        go_wp2
        go_ret
        exact ⟨by first | rfl | (simp [errW_none, errW_some] <;> rfl) | (simp [*, errW_none, errW_some] <;> rfl), by repeat (first | (with_reducible first | exact HB.out | apply below_alloc | apply pw_below_drewN | apply below_drew1 | refine below_set ?_ GE145.out) | exact HB.out)⟩
      · replace c12 := Bool.eq_false_iff.mpr c12
        subst c12
        have H1 : ((spec_LsRight.f kj2 l0).bind fun t148 => (if t148 = true then (if (l0.length : Int) = 0 then (laws_FnListLines.j1 kj2 l0 true a1_0 a1_1 a1_2 a1_3 a1_4 a1_5 a1_6 a1_7 a1_8) else ((spec_LsStyled.f kj2 a1_0 a1_1 a1_2 a1_3 a1_4 a1_5 a1_6 a1_7 a1_8).bind fun t149 => (laws_FnListLines.j1 kj2 l0 (!t149) a1_0 a1_1 a1_2 a1_3 a1_4 a1_5 a1_6 a1_7 a1_8))) else (laws_FnListLines.j1 kj2 l0 true a1_0 a1_1 a1_2 a1_3 a1_4 a1_5 a1_6 a1_7 a1_8))) = some r := by rw [if_neg (show ¬ (false = true) by decide)] at H; exact H
        clear H
        have H := H1
        clear H1
        have HC13 := Aside0.mk H
        clear H
        go_upto_region 3 with (fail)
        go_cut [29] (fun v29 wc => ∃ (kq : Nat) (x29_12 : Bool), v29 = .bool x29_12 ∧ Aside0 (laws_FnListLines.j1 kq l0 x29_12 a1_0 a1_1 a1_2 a1_3 a1_4 a1_5 a1_6 a1_7 a1_8 = some r) ∧ Aside0 (kq ≤ kj2) ∧ Aside0 (wc.heap[gb145]? = some (.cells #[.int .i64 a1_0, .string a1_1, .string a1_2, .string a1_3, .string a1_4, .string a1_5, .string a1_6, .string a1_7, .string a1_8] 24 (0, 0))) ∧ Aside0 (Below w.heap.size w wc))
        case first =>
          have H := HC13.out
          clear HC13
          replace H := Option.bind_eq_some_iff.mp H
          obtain ⟨t148, A140, H⟩ := H
          replace H : (if t148 = true then (if (l0.length : Int) = 0 then (laws_FnListLines.j1 kj2 l0 true a1_0 a1_1 a1_2 a1_3 a1_4 a1_5 a1_6 a1_7 a1_8) else ((spec_LsStyled.f kj2 a1_0 a1_1 a1_2 a1_3 a1_4 a1_5 a1_6 a1_7 a1_8).bind fun t149 => (laws_FnListLines.j1 kj2 l0 (!t149) a1_0 a1_1 a1_2 a1_3 a1_4 a1_5 a1_6 a1_7 a1_8))) else (laws_FnListLines.j1 kj2 l0 true a1_0 a1_1 a1_2 a1_3 a1_4 a1_5 a1_6 a1_7 a1_8)) = some r := H
          have A14 := Aside0.mk A140
          clear A140
          by_cases c15 : t148 = true
          · subst c15
            have H1 : (if (l0.length : Int) = 0 then (laws_FnListLines.j1 kj2 l0 true a1_0 a1_1 a1_2 a1_3 a1_4 a1_5 a1_6 a1_7 a1_8) else ((spec_LsStyled.f kj2 a1_0 a1_1 a1_2 a1_3 a1_4 a1_5 a1_6 a1_7 a1_8).bind fun t149 => (laws_FnListLines.j1 kj2 l0 (!t149) a1_0 a1_1 a1_2 a1_3 a1_4 a1_5 a1_6 a1_7 a1_8))) = some r := by rw [if_pos rfl] at H; exact H
            clear H
            have H := H1
            clear H1
            by_cases c16 : (l0.length : Int) = 0
            · rw [if_pos c16] at H
              have c16b0 : ((l0.length : Int) == 0) = true := beq_iff_eq.mpr c16
              have c16b1 : ((l0.length : Int) != 0) = false := bne_eq_false_iff_eq.mpr c16
              clear c16
              (first | rw [c16b0] | (simp only [i64_w, i32_w]; rw [c16b0]) | skip)
              have H' := Aside0.mk H
              clear H
              go_wp2_with (first | ((with_reducible refine gate_callee (f := 8) rfl ?_); refine goesL_ (some 18) rfl rfl Tryd.func8 (by kernel_rfl) rfl #[.slice A0 l0.length c0] rfl (by (try simp only [List.map_toArray, List.map_cons, List.map_nil]); first | done | rfl | (simp only [List.length_drop, List.length_take]; rfl)) ?_; (with_reducible refine (spec_LsRight.calls kj2 _ _ l0 true _ ?side1 ?side2 A14.out).mono ?_); (case side1 => repeat (first | exact (Kd.C_below HR0.out HB.out) | (with_reducible refine Kd.C_alloc ?_ _) | (with_reducible refine Kd.C_drewN ?_ _) | (with_reducible refine Kd.C_drew ?_))); (case side2 => exact HC0.out); rintro e w17 ⟨rfl, hb⟩; refine ⟨_, rfl, ?_⟩; have n0_ := Aside0.mk (blk_below (g := gb145) (o := .cells #[.int .i64 a1_0, .string a1_1, .string a1_2, .string a1_3, .string a1_4, .string a1_5, .string a1_6, .string a1_7, .string a1_8] 24 (0, 0)) (by (with_reducible repeat (first | refine blk_drewN ?_ _ | refine blk_drew ?_ | refine blk_alloc ?_ _)); exact BK145.out) hb); have n1_ := Aside0.mk (below_step (by repeat (first | (with_reducible first | exact HB.out | apply below_alloc | apply pw_below_drewN | apply below_drew1 | refine below_set ?_ GE145.out) | exact HB.out)) hb); clear BK145; clear HB; have BK145 := n0_; have HB := n1_; clear n0_ n1_; (try clear hb); (try clear hb2); (try clear hk); (try clear hi)))
              go_meet
              case rel => exact ⟨_, (true), (by first | rfl | (simp; done) | (simp [*]; done)), H', ⟨by have := HJ2.out; first | omega | exact Nat.le_refl _⟩, ⟨by (with_reducible repeat (first | refine blk_drewN ?_ _ | refine blk_drew ?_ | refine blk_alloc ?_ _)); exact BK145.out⟩, ⟨by repeat (first | (with_reducible first | exact HB.out | apply below_alloc | apply pw_below_drewN | apply below_drew1 | refine below_set ?_ GE145.out) | exact HB.out)⟩⟩
            · rw [if_neg c16] at H
              have c16b0 : ((l0.length : Int) == 0) = false := beq_eq_false_iff_ne.mpr c16
              have c16b1 : ((l0.length : Int) != 0) = true := bne_iff_ne.mpr c16
              have c16b2 : ¬ (l0 = []) := fun h_ => c16 (by rw [h_]; rfl)
              (first | rw [c16b0] | (simp only [i64_w, i32_w]; rw [c16b0]) | skip)
              replace H := Option.bind_eq_some_iff.mp H
              obtain ⟨t149, A180, H⟩ := H
              replace H : (laws_FnListLines.j1 kj2 l0 (!t149) a1_0 a1_1 a1_2 a1_3 a1_4 a1_5 a1_6 a1_7 a1_8) = some r := H
              have A18 := Aside0.mk A180
              clear A180
              have H' := Aside0.mk H
              clear H
              go_wp2_with (first | ((with_reducible refine gate_callee (f := 8) rfl ?_); refine goesL_ (some 18) rfl rfl Tryd.func8 (by kernel_rfl) rfl #[.slice A0 l0.length c0] rfl (by (try simp only [List.map_toArray, List.map_cons, List.map_nil]); first | done | rfl | (simp only [List.length_drop, List.length_take]; rfl)) ?_; (with_reducible refine (spec_LsRight.calls kj2 _ _ l0 true _ ?side1 ?side2 A14.out).mono ?_); (case side1 => repeat (first | exact (Kd.C_below HR0.out HB.out) | (with_reducible refine Kd.C_alloc ?_ _) | (with_reducible refine Kd.C_drewN ?_ _) | (with_reducible refine Kd.C_drew ?_))); (case side2 => exact HC0.out); rintro e w19 ⟨rfl, hb⟩; refine ⟨_, rfl, ?_⟩; have n0_ := Aside0.mk (blk_below (g := gb145) (o := .cells #[.int .i64 a1_0, .string a1_1, .string a1_2, .string a1_3, .string a1_4, .string a1_5, .string a1_6, .string a1_7, .string a1_8] 24 (0, 0)) (by (with_reducible repeat (first | refine blk_drewN ?_ _ | refine blk_drew ?_ | refine blk_alloc ?_ _)); exact BK145.out) hb); have n1_ := Aside0.mk (below_step (by repeat (first | (with_reducible first | exact HB.out | apply below_alloc | apply pw_below_drewN | apply below_drew1 | refine below_set ?_ GE145.out) | exact HB.out)) hb); clear BK145; clear HB; have BK145 := n0_; have HB := n1_; clear n0_ n1_; (try clear hb); (try clear hb2); (try clear hk); (try clear hi); have hcz20_0 : w19.cell? ⟨gb145, 0, none⟩ = some (.int .i64 a1_0) := (blk_cell BK145.out 0).trans rfl; have hcz20_1 : w19.cell? ⟨gb145, 1, none⟩ = some (.string a1_1) := (blk_cell BK145.out 1).trans rfl; have hcz20_2 : w19.cell? ⟨gb145, 2, none⟩ = some (.string a1_2) := (blk_cell BK145.out 2).trans rfl; have hcz20_3 : w19.cell? ⟨gb145, 3, none⟩ = some (.string a1_3) := (blk_cell BK145.out 3).trans rfl; have hcz20_4 : w19.cell? ⟨gb145, 4, none⟩ = some (.string a1_4) := (blk_cell BK145.out 4).trans rfl; have hcz20_5 : w19.cell? ⟨gb145, 5, none⟩ = some (.string a1_5) := (blk_cell BK145.out 5).trans rfl; have hcz20_6 : w19.cell? ⟨gb145, 6, none⟩ = some (.string a1_6) := (blk_cell BK145.out 6).trans rfl; have hcz20_7 : w19.cell? ⟨gb145, 7, none⟩ = some (.string a1_7) := (blk_cell BK145.out 7).trans rfl; have hcz20_8 : w19.cell? ⟨gb145, 8, none⟩ = some (.string a1_8) := (blk_cell BK145.out 8).trans rfl; have hfz20_0 := blk_frozen BK145.out 0; have hfz20_1 := blk_frozen BK145.out 1; have hfz20_2 := blk_frozen BK145.out 2; have hfz20_3 := blk_frozen BK145.out 3; have hfz20_4 := blk_frozen BK145.out 4; have hfz20_5 := blk_frozen BK145.out 5; have hfz20_6 := blk_frozen BK145.out 6; have hfz20_7 := blk_frozen BK145.out 7; have hfz20_8 := blk_frozen BK145.out 8) | (go_at_call 9; (with_reducible refine (spec_LsStyled.calls kj2 a1_0 a1_1 a1_2 a1_3 a1_4 a1_5 a1_6 a1_7 a1_8 t149 _ A18.out).mono ?_); rintro e w21 ⟨rfl, hb⟩; have n0_ := Aside0.mk (blk_below (g := gb145) (o := .cells #[.int .i64 a1_0, .string a1_1, .string a1_2, .string a1_3, .string a1_4, .string a1_5, .string a1_6, .string a1_7, .string a1_8] 24 (0, 0)) (by (with_reducible repeat (first | refine blk_drewN ?_ _ | refine blk_drew ?_ | refine blk_alloc ?_ _)); exact BK145.out) hb); have n1_ := Aside0.mk (below_step (by repeat (first | (with_reducible first | exact HB.out | apply below_alloc | apply pw_below_drewN | apply below_drew1 | refine below_set ?_ GE145.out) | exact HB.out)) hb); clear BK145; clear HB; have BK145 := n0_; have HB := n1_; clear n0_ n1_; (try clear hb); (try clear hb2); (try clear hk); (try clear hi)))
              go_meet
              case rel => exact ⟨_, (!t149), (by first | rfl | (simp; done) | (simp [*]; done)), H', ⟨by have := HJ2.out; first | omega | exact Nat.le_refl _⟩, ⟨by (with_reducible repeat (first | refine blk_drewN ?_ _ | refine blk_drew ?_ | refine blk_alloc ?_ _)); exact BK145.out⟩, ⟨by repeat (first | (with_reducible first | exact HB.out | apply below_alloc | apply pw_below_drewN | apply below_drew1 | refine below_set ?_ GE145.out) | exact HB.out)⟩⟩
          · replace c15 := Bool.eq_false_iff.mpr c15
            subst c15
            have H1 : (laws_FnListLines.j1 kj2 l0 true a1_0 a1_1 a1_2 a1_3 a1_4 a1_5 a1_6 a1_7 a1_8) = some r := by rw [if_neg (show ¬ (false = true) by decide)] at H; exact H
            clear H
            have H := H1
            clear H1
            have H' := Aside0.mk H
            clear H
            go_wp2_with (first | ((with_reducible refine gate_callee (f := 8) rfl ?_); refine goesL_ (some 18) rfl rfl Tryd.func8 (by kernel_rfl) rfl #[.slice A0 l0.length c0] rfl (by (try simp only [List.map_toArray, List.map_cons, List.map_nil]); first | done | rfl | (simp only [List.length_drop, List.length_take]; rfl)) ?_; (with_reducible refine (spec_LsRight.calls kj2 _ _ l0 false _ ?side1 ?side2 A14.out).mono ?_); (case side1 => repeat (first | exact (Kd.C_below HR0.out HB.out) | (with_reducible refine Kd.C_alloc ?_ _) | (with_reducible refine Kd.C_drewN ?_ _) | (with_reducible refine Kd.C_drew ?_))); (case side2 => exact HC0.out); rintro e w22 ⟨rfl, hb⟩; refine ⟨_, rfl, ?_⟩; have n0_ := Aside0.mk (blk_below (g := gb145) (o := .cells #[.int .i64 a1_0, .string a1_1, .string a1_2, .string a1_3, .string a1_4, .string a1_5, .string a1_6, .string a1_7, .string a1_8] 24 (0, 0)) (by (with_reducible repeat (first | refine blk_drewN ?_ _ | refine blk_drew ?_ | refine blk_alloc ?_ _)); exact BK145.out) hb); have n1_ := Aside0.mk (below_step (by repeat (first | (with_reducible first | exact HB.out | apply below_alloc | apply pw_below_drewN | apply below_drew1 | refine below_set ?_ GE145.out) | exact HB.out)) hb); clear BK145; clear HB; have BK145 := n0_; have HB := n1_; clear n0_ n1_; (try clear hb); (try clear hb2); (try clear hk); (try clear hi)))
            go_meet
            case rel => exact ⟨_, (true), (by first | rfl | (simp; done) | (simp [*]; done)), H', ⟨by have := HJ2.out; first | omega | exact Nat.le_refl _⟩, ⟨by (with_reducible repeat (first | refine blk_drewN ?_ _ | refine blk_drew ?_ | refine blk_alloc ?_ _)); exact BK145.out⟩, ⟨by repeat (first | (with_reducible first | exact HB.out | apply below_alloc | apply pw_below_drewN | apply below_drew1 | refine below_set ?_ GE145.out) | exact HB.out)⟩⟩
        case rest =>
          clear HC13
          try clear c1
          try clear p2
          try clear c3
          try clear c6
          try clear c8
          try clear c12
          try clear c15
          try clear c16
          try clear c16b0
          try clear c16b1
          try clear c16b2
          try clear hcz20_0
          try clear hcz20_1
          try clear hcz20_2
          try clear hcz20_3
          try clear hcz20_4
          try clear hcz20_5
          try clear hcz20_6
          try clear hcz20_7
          try clear hcz20_8
          try clear hcz9_0
          try clear hcz9_1
          try clear hcz9_2
          try clear hcz9_3
          try clear hcz9_4
          try clear hcz9_5
          try clear hcz9_6
          try clear hcz9_7
          try clear hcz9_8
          try clear hfz20_0
          try clear hfz20_1
          try clear hfz20_2
          try clear hfz20_3
          try clear hfz20_4
          try clear hfz20_5
          try clear hfz20_6
          try clear hfz20_7
          try clear hfz20_8
          try clear hfz9_0
          try clear hfz9_1
          try clear hfz9_2
          try clear hfz9_3
          try clear hfz9_4
          try clear hfz9_5
          try clear hfz9_6
          try clear hfz9_7
          try clear hfz9_8
          try clear p2
          obtain ⟨kq, x29_12, rfl, HA, HJ12, BK145, HB⟩ := hcut
          cases kq with
          | zero => exact absurd HA.out (by simp [laws_FnListLines.j1])
          | succ kj12 =>
            have H := HA.out
            clear HA
            simp only [laws_FnListLines.j1] at H
            by_cases c23 : x29_12 = true
            · subst c23
              have H1 : (some true) = some r := by rw [if_pos rfl] at H; exact H
              clear H
              have H := H1
              clear H1
              obtain rfl := Option.some.inj H
              go_wp2
              go_ret
              exact ⟨by first | rfl | (simp [errW_none, errW_some] <;> rfl) | (simp [*, errW_none, errW_some] <;> rfl), by repeat (first | (with_reducible first | exact HB.out | apply below_alloc | apply pw_below_drewN | apply below_drew1 | refine below_set ?_ GE145.out) | exact HB.out)⟩
            · replace c23 := Bool.eq_false_iff.mpr c23
              subst c23
              have H1 : ((spec_LsSteps.f kj12 l0).bind fun t150 => ((impl_ListRender.f t150 a1_0 a1_1 a1_2 a1_3 a1_4 a1_5 a1_6 a1_7 a1_8).bind fun t153 => ((spec_TxLines.f kj12 t153).bind fun t154 => (if (t154.length : Int) = (l0.length : Int) then (laws_FnListLines.l0 kj12 t154 l0 (l0.length : Int) 0) else (some false))))) = some r := by rw [if_neg (show ¬ (false = true) by decide)] at H; exact H
              clear H
              have H := H1
              clear H1
              replace H := Option.bind_eq_some_iff.mp H
              obtain ⟨t150, A240, H⟩ := H
              replace H : ((impl_ListRender.f t150 a1_0 a1_1 a1_2 a1_3 a1_4 a1_5 a1_6 a1_7 a1_8).bind fun t153 => ((spec_TxLines.f kj12 t153).bind fun t154 => (if (t154.length : Int) = (l0.length : Int) then (laws_FnListLines.l0 kj12 t154 l0 (l0.length : Int) 0) else (some false)))) = some r := H
              have A24 := Aside0.mk A240
              clear A240
              replace H := Option.bind_eq_some_iff.mp H
              obtain ⟨t153, A250, H⟩ := H
              replace H : ((spec_TxLines.f kj12 t153).bind fun t154 => (if (t154.length : Int) = (l0.length : Int) then (laws_FnListLines.l0 kj12 t154 l0 (l0.length : Int) 0) else (some false))) = some r := H
              have A25 := Aside0.mk A250
              clear A250
              replace H := Option.bind_eq_some_iff.mp H
              obtain ⟨t154, A260, H⟩ := H
              replace H : (if (t154.length : Int) = (l0.length : Int) then (laws_FnListLines.l0 kj12 t154 l0 (l0.length : Int) 0) else (some false)) = some r := H
              have A26 := Aside0.mk A260
              clear A260
              by_cases c27 : (t154.length : Int) = (l0.length : Int)
              · rw [if_pos c27] at H
                have c27b0 : ((t154.length : Int) == (l0.length : Int)) = true := beq_iff_eq.mpr c27
                have c27b1 : ((t154.length : Int) != (l0.length : Int)) = false := bne_eq_false_iff_eq.mpr c27
                have c27b2 : (t154.length == l0.length) = true := by first | simpa using c27 | (simp at c27 ⊢; omega)
                clear c27
                have H' := Aside0.mk H
                clear H
                try go_wp2
                have n0_ := Aside0.mk (blk_drew BK145.out)
                have n1_ := Aside0.mk (below_drew1 HB.out)
                clear BK145
                clear HB
                have BK145 := n0_
                have HB := n1_
                clear n0_ n1_
                refine start_ (n := 6) (S := fun w' => w'.cell? ⟨gb145, 0, none⟩ = some (.int .i64 a1_0) ∧ w'.cell? ⟨gb145, 1, none⟩ = some (.string a1_1) ∧ w'.cell? ⟨gb145, 2, none⟩ = some (.string a1_2) ∧ w'.cell? ⟨gb145, 3, none⟩ = some (.string a1_3) ∧ w'.cell? ⟨gb145, 4, none⟩ = some (.string a1_4) ∧ w'.cell? ⟨gb145, 5, none⟩ = some (.string a1_5) ∧ w'.cell? ⟨gb145, 6, none⟩ = some (.string a1_6) ∧ w'.cell? ⟨gb145, 7, none⟩ = some (.string a1_7) ∧ w'.cell? ⟨gb145, 8, none⟩ = some (.string a1_8)) (ds := []) #[false, false, false, false, false, false] (by kernel_rfl) rfl rfl ⟨(blk_cell BK145.out 0).trans rfl, (blk_cell BK145.out 1).trans rfl, (blk_cell BK145.out 2).trans rfl, (blk_cell BK145.out 3).trans rfl, (blk_cell BK145.out 4).trans rfl, (blk_cell BK145.out 5).trans rfl, (blk_cell BK145.out 6).trans rfl, (blk_cell BK145.out 7).trans rfl, (blk_cell BK145.out 8).trans rfl⟩ (fun hHeld => ?_)
                generalize wc.drew = w28 at BK145 HB hHeld ⊢
                refine pure_ (i := 0) (N := some 30) (v := ?_) (a' := ?_) #[true, false, false, false, false, false] rfl rfl (by kernel_rfl) (fun _ _ _ h => h) (Or.inl ⟨by rfl, ?_⟩) ?_ ?_
                rotate_left
                · intro w'
                  go_simp
                  with_reducible rfl
                rotate_left
                · simp only [Act.put, List.setIfInBounds_toArray, List.set_cons_zero, List.set_cons_succ, i64_w, i32_w]
                  rfl
                refine take_ (i := 2) (N := some 32) (v := ?_) (a' := ?_) #[true, false, true, false, false, false] rfl rfl (by kernel_rfl) (fun _ _ _ h => h) (Or.inl ⟨by rfl, ?_⟩) hHeld ?_ ?_
                rotate_left
                · rintro w' ⟨s0, s1, s2, s3, s4, s5, s6, s7, s8⟩
                  go_simp
                  with_reducible rfl
                rotate_left
                · simp only [Act.put, List.setIfInBounds_toArray, List.set_cons_zero, List.set_cons_succ, i64_w, i32_w]
                  rfl
                refine one_ (i := 1) (N := some 31) #[true, true, true, false, false, false] rfl rfl (by kernel_rfl) (by decide) (fun K hK => ?_)
                refine goes_ Tryd.func12 (by kernel_rfl) rfl #[.slice A0 l0.length c0] (by rfl) rfl rfl (by (try simp only [List.map_toArray, List.map_cons, List.map_nil]); first | done | rfl | (simp only [List.length_drop, List.length_take]; rfl)) ?_
                with_reducible refine (spec_LsSteps.calls kj12 _ _ l0 t150 _ ?side1 ?side2 A24.out).mono ?_
                (case side1 => repeat (first | exact (Kd.C_below HR0.out HB.out) | (with_reducible refine Kd.C_alloc ?_ _) | (with_reducible refine Kd.C_drewN ?_ _) | (with_reducible refine Kd.C_drew ?_)))
                (case side2 => exact HC0.out)
                rintro e w29 ⟨v151, rfl, ho0, hb⟩
                refine ⟨_, rfl, ?_⟩
                have n0_ := Aside0.mk (Kd.S_lower ho0 (below_size (by repeat (first | (with_reducible first | exact HB.out | apply below_alloc | apply pw_below_drewN | apply below_drew1 | refine below_set ?_ GE145.out) | exact HB.out))))
                have n1_ := Aside0.mk (blk_below (g := gb145) (o := .cells #[.int .i64 a1_0, .string a1_1, .string a1_2, .string a1_3, .string a1_4, .string a1_5, .string a1_6, .string a1_7, .string a1_8] 24 (0, 0)) (by (with_reducible repeat (first | refine blk_drewN ?_ _ | refine blk_drew ?_ | refine blk_alloc ?_ _)); exact BK145.out) hb)
                have n2_ := Aside0.mk (below_step (by repeat (first | (with_reducible first | exact HB.out | apply below_alloc | apply pw_below_drewN | apply below_drew1 | refine below_set ?_ GE145.out) | exact HB.out)) hb)
                clear BK145
                clear HB
                have HO152 := n0_
                have BK145 := n1_
                have HB := n2_
                clear n0_ n1_ n2_
                (try clear hb)
                (try clear hb2)
                (try clear hk)
                (try clear hi)
                (try clear ho0)
                obtain ⟨Ao30, co30, eo30⟩ := Kd.S_slice HO152.out
                (first | subst eo30 | (injection eo30 with f1_ f2_ f3_; have f4_ := f1_.symm; have f5_ := f3_.symm; clear f1_ f2_ f3_; subst f4_; subst f5_))
                refine hK.out _ _ ⟨(blk_cell BK145.out 0).trans rfl, (blk_cell BK145.out 1).trans rfl, (blk_cell BK145.out 2).trans rfl, (blk_cell BK145.out 3).trans rfl, (blk_cell BK145.out 4).trans rfl, (blk_cell BK145.out 5).trans rfl, (blk_cell BK145.out 6).trans rfl, (blk_cell BK145.out 7).trans rfl, (blk_cell BK145.out 8).trans rfl⟩ (fun hHeld => ?_)
                clear hK K
                refine norm_ (a' := ?_) ?_ ?_
                rotate_left
                · show Act.put _ (some 31) _ = _
                  simp only [Act.put, List.setIfInBounds_toArray, List.set_cons_zero, List.set_cons_succ, i64_w, i32_w]
                  rfl
                refine one_ (i := 3) (N := some 33) #[true, true, true, true, false, false] rfl rfl (by kernel_rfl) (by decide) (fun K hK => ?_)
                refine goes_ Tryd.func11 (by kernel_rfl) rfl #[.slice Ao30 t150.length co30, .agg #[.int .i64 a1_0, .string a1_1, .string a1_2, .string a1_3, .string a1_4, .string a1_5, .string a1_6, .string a1_7, .string a1_8]] (by rfl) rfl rfl (by (try simp only [List.map_toArray, List.map_cons, List.map_nil]); first | done | rfl | (simp only [List.length_drop, List.length_take]; rfl)) ?_
                with_reducible refine (impl_ListRender.calls _ _ t150 a1_0 a1_1 a1_2 a1_3 a1_4 a1_5 a1_6 a1_7 a1_8 t153 _ ?side1 ?side2 A25.out).mono ?_
                (case side1 => repeat (first | exact (Kd.S_reads' HO152.out).2.2 | (with_reducible refine Kd.C_alloc ?_ _) | (with_reducible refine Kd.C_drewN ?_ _) | (with_reducible refine Kd.C_drew ?_)))
                (case side2 => exact (Kd.S_reads' HO152.out).2.1)
                rintro e w31 ⟨rfl, hb⟩
                refine ⟨_, rfl, ?_⟩
                have n0_ := Aside0.mk (Kd.S_below (by (with_reducible repeat (first | apply Kd.S_alloc | apply Kd.S_drewN | apply Kd.S_drew)); exact HO152.out) hb)
                have n1_ := Aside0.mk (blk_below (g := gb145) (o := .cells #[.int .i64 a1_0, .string a1_1, .string a1_2, .string a1_3, .string a1_4, .string a1_5, .string a1_6, .string a1_7, .string a1_8] 24 (0, 0)) (by (with_reducible repeat (first | refine blk_drewN ?_ _ | refine blk_drew ?_ | refine blk_alloc ?_ _)); exact BK145.out) hb)
                have n2_ := Aside0.mk (below_step (by repeat (first | (with_reducible first | exact HB.out | apply below_alloc | apply pw_below_drewN | apply below_drew1 | refine below_set ?_ GE145.out) | exact HB.out)) hb)
                clear HO152
                clear BK145
                clear HB
                have HO152 := n0_
                have BK145 := n1_
                have HB := n2_
                clear n0_ n1_ n2_
                (try clear hb)
                (try clear hb2)
                (try clear hk)
                (try clear hi)
                refine hK.out _ _ ⟨(blk_cell BK145.out 0).trans rfl, (blk_cell BK145.out 1).trans rfl, (blk_cell BK145.out 2).trans rfl, (blk_cell BK145.out 3).trans rfl, (blk_cell BK145.out 4).trans rfl, (blk_cell BK145.out 5).trans rfl, (blk_cell BK145.out 6).trans rfl, (blk_cell BK145.out 7).trans rfl, (blk_cell BK145.out 8).trans rfl⟩ (fun hHeld => ?_)
                clear hK K
                refine norm_ (a' := ?_) ?_ ?_
                rotate_left
                · show Act.put _ (some 33) _ = _
                  simp only [Act.put, List.setIfInBounds_toArray, List.set_cons_zero, List.set_cons_succ, i64_w, i32_w]
                  rfl
                refine one_ (i := 4) (N := some 34) #[true, true, true, true, true, false] rfl rfl (by kernel_rfl) (by decide) (fun K hK => ?_)
                refine goes_ Tryd.func10 (by kernel_rfl) rfl #[.string t153] (by rfl) rfl rfl (by (try simp only [List.map_toArray, List.map_cons, List.map_nil]); first | done | rfl | (simp only [List.length_drop, List.length_take]; rfl)) ?_
                with_reducible refine (spec_TxLines.calls kj12 t153 t154 _ A26.out).mono ?_
                rintro e w32 ⟨v155, rfl, ho0, hb⟩
                refine ⟨_, rfl, ?_⟩
                have n0_ := Aside0.mk (Kd.S_elder' (by (with_reducible repeat (first | apply Kd.S_alloc | apply Kd.S_drewN | apply Kd.S_drew)); exact HO152.out) (Kd.R_base ho0) hb)
                have n1_ := Aside0.mk (Kd.R_lower ho0 (below_size (by repeat (first | (with_reducible first | exact HB.out | apply below_alloc | apply pw_below_drewN | apply below_drew1 | refine below_set ?_ GE145.out) | exact HB.out))))
                have n2_ := Aside0.mk (blk_below (g := gb145) (o := .cells #[.int .i64 a1_0, .string a1_1, .string a1_2, .string a1_3, .string a1_4, .string a1_5, .string a1_6, .string a1_7, .string a1_8] 24 (0, 0)) (by (with_reducible repeat (first | refine blk_drewN ?_ _ | refine blk_drew ?_ | refine blk_alloc ?_ _)); exact BK145.out) hb)
                have n3_ := Aside0.mk (below_step (by repeat (first | (with_reducible first | exact HB.out | apply below_alloc | apply pw_below_drewN | apply below_drew1 | refine below_set ?_ GE145.out) | exact HB.out)) hb)
                clear HO152
                clear BK145
                clear HB
                have HO152 := n0_
                have HO156 := n1_
                have BK145 := n2_
                have HB := n3_
                clear n0_ n1_ n2_ n3_
                (try clear hb)
                (try clear hb2)
                (try clear hk)
                (try clear hi)
                (try clear ho0)
                refine hK.out _ _ ⟨(blk_cell BK145.out 0).trans rfl, (blk_cell BK145.out 1).trans rfl, (blk_cell BK145.out 2).trans rfl, (blk_cell BK145.out 3).trans rfl, (blk_cell BK145.out 4).trans rfl, (blk_cell BK145.out 5).trans rfl, (blk_cell BK145.out 6).trans rfl, (blk_cell BK145.out 7).trans rfl, (blk_cell BK145.out 8).trans rfl⟩ (fun hHeld => ?_)
                clear hK K
                refine norm_ (a' := ?_) ?_ ?_
                rotate_left
                · show Act.put _ (some 34) _ = _
                  simp only [Act.put, List.setIfInBounds_toArray, List.set_cons_zero, List.set_cons_succ, i64_w, i32_w]
                  rfl
                refine pure_ (i := 5) (N := some 5) (v := ?_) (a' := ?_) #[true, true, true, true, true, true] rfl rfl (by kernel_rfl) (fun _ _ _ h => h) (Or.inl ⟨by rfl, ?_⟩) ?_ ?_
                rotate_left
                · intro w'
                  go_simp
                  with_reducible rfl
                rotate_left
                · simp only [Act.put, List.setIfInBounds_toArray, List.set_cons_zero, List.set_cons_succ, i64_w, i32_w]
                  rfl
                refine done_ (by kernel_rfl) ?_
                obtain ⟨Ao33, co33, eo33⟩ := Kd.R_slice HO156.out
                subst eo33
                try go_wp2
                go_loopg [42] kj12 (fun kq v42 w' => ∃ (x42_3 : Int), v42 = .int .i64 x42_3 ∧ Aside0 (laws_FnListLines.l0 kq t154 l0 (l0.length : Int) x42_3 = some r) ∧ Aside0 (kq ≤ kj12) ∧ Aside0 (Kd.R Kd.string 9 w' w.heap.size (fun _ => True) (.slice Ao33 t154.length co33) t154) ∧ Aside0 (w'.heap[gb145]? = some (.cells #[.int .i64 a1_0, .string a1_1, .string a1_2, .string a1_3, .string a1_4, .string a1_5, .string a1_6, .string a1_7, .string a1_8] 24 (0, 0))) ∧ Aside0 (Below w.heap.size w w'))
                case atStart => exact ⟨(0), (by first | rfl | (simp; done) | (simp [*]; done)), H', ⟨Nat.le_refl _⟩, ⟨by (with_reducible repeat (first | apply Kd.R_alloc | apply Kd.R_drewN | apply Kd.R_drew)); exact HO156.out⟩, ⟨by (with_reducible repeat (first | refine blk_drewN ?_ _ | refine blk_drew ?_ | refine blk_alloc ?_ _)); exact BK145.out⟩, ⟨by repeat (first | (with_reducible first | exact HB.out | apply below_alloc | apply pw_below_drewN | apply below_drew1 | refine below_set ?_ GE145.out) | exact HB.out)⟩⟩
                case round =>
                  clear H'
                  try clear c1
                  try clear c2
                  try clear p2
                  try clear c3
                  try clear c6
                  try clear c8
                  try clear c10
                  try clear c11
                  try clear c12
                  try clear c15
                  try clear c16
                  try clear c16b0
                  try clear c16b1
                  try clear c16b2
                  try clear c23
                  try clear c27
                  try clear c27b0
                  try clear c27b1
                  try clear c27b2
                  try clear hcz20_0
                  try clear hcz20_1
                  try clear hcz20_2
                  try clear hcz20_3
                  try clear hcz20_4
                  try clear hcz20_5
                  try clear hcz20_6
                  try clear hcz20_7
                  try clear hcz20_8
                  try clear hcz9_0
                  try clear hcz9_1
                  try clear hcz9_2
                  try clear hcz9_3
                  try clear hcz9_4
                  try clear hcz9_5
                  try clear hcz9_6
                  try clear hcz9_7
                  try clear hcz9_8
                  try clear hfz20_0
                  try clear hfz20_1
                  try clear hfz20_2
                  try clear hfz20_3
                  try clear hfz20_4
                  try clear hfz20_5
                  try clear hfz20_6
                  try clear hfz20_7
                  try clear hfz20_8
                  try clear hfz9_0
                  try clear hfz9_1
                  try clear hfz9_2
                  try clear hfz9_3
                  try clear hfz9_4
                  try clear hfz9_5
                  try clear hfz9_6
                  try clear hfz9_7
                  try clear hfz9_8
                  try clear p2
                  obtain ⟨x42_3, rfl, HA, HK3, HO_5, BK145, HB⟩ := hrel
                  cases gk with
                  | zero => exact absurd HA.out (by simp [laws_FnListLines.l0])
                  | succ k3 =>
                    have H := HA.out
                    clear HA
                    simp only [laws_FnListLines.l0] at H
                    by_cases c34 : x42_3 < (l0.length : Int)
                    · rw [if_pos c34] at H
                      have c34b0 : decide (x42_3 < (l0.length : Int)) = true := decide_eq_true c34
                      clear c34
                      by_cases c35 : 0 ≤ x42_3
                      · rw [if_pos c35] at H
                        have c35b0 : decide (0 ≤ x42_3) = true := decide_eq_true c35
                        clear c35
                        by_cases c36 : x42_3 < (l0.length : Int)
                        · rw [if_pos c36] at H
                          have c36b0 : decide (x42_3 < (l0.length : Int)) = true := decide_eq_true c36
                          clear c36
                          by_cases c37 : x42_3 < (t154.length : Int)
                          · rw [if_pos c37] at H
                            have c37b0 : decide (x42_3 < (t154.length : Int)) = true := decide_eq_true c37
                            clear c37
                            by_cases c38 : (wrap64 (((rdOf ByteArray.empty t154 x42_3).size : Int) - (((rd_T33 l0 x42_3).f0).size : Int))) < 0
                            · rw [if_pos c38] at H
                              have c38b0 : decide ((wrap64 (((rdOf ByteArray.empty t154 x42_3).size : Int) - (((rd_T33 l0 x42_3).f0).size : Int))) < 0) = true := decide_eq_true c38
                              clear c38
                              obtain rfl := Option.some.inj H
                              have p157 : 0 ≤ (x42_3 : Int) := of_decide_eq_true (by first | (with_reducible assumption) | assumption)
                              have q157 : x42_3 < (l0.length : Int) := of_decide_eq_true (by first | (with_reducible assumption) | assumption)
                              obtain ⟨ad157, e157, hx157_0, hx157_1⟩ := at_T33 HR0.out x42_3 p157 q157
                              cases e157
                              replace hx157_0 := (HB.out.cell (World.block_lt_of_cell? w _ hx157_0)).trans hx157_0
                              replace hx157_1 := (HB.out.cell (World.block_lt_of_cell? w _ hx157_1)).trans hx157_1
                              (try simp only [Go.IntWalk.toNatUp] at hx157_0)
                              (try simp only [Go.IntWalk.toNatUp] at hx157_1)
                              replace p157 := eq_true p157
                              replace q157 := eq_true q157
                              try go_wp2_with (first | ((with_reducible refine gate_dst (N := 7) rfl ?_); (try (refine gate_guard (by rfl) ?_; dsimp only)); refine box_event ?hg (N := 7) ?hd (cs := #[.string (⟨#[]⟩ : ByteArray), .int .i64 0]) (t := 33) ?hr ?_; (case hd => rfl); (case hg => rfl); (case hr => first | (go_simp; done) | (go_simp; rfl)); intro gb158 hg w39 hbox hb; have n0_ := Aside0.mk (Kd.R_below (by (with_reducible repeat (first | apply Kd.R_alloc | apply Kd.R_drewN | apply Kd.R_drew)); exact HO_5.out) hb); have n1_ := Aside0.mk (blk_below (g := gb145) (o := .cells #[.int .i64 a1_0, .string a1_1, .string a1_2, .string a1_3, .string a1_4, .string a1_5, .string a1_6, .string a1_7, .string a1_8] 24 (0, 0)) (by (with_reducible repeat (first | refine blk_drewN ?_ _ | refine blk_drew ?_ | refine blk_alloc ?_ _)); exact BK145.out) hb); have n2_ := Aside0.mk (below_step (by repeat (first | (with_reducible first | exact HB.out | apply below_alloc | apply pw_below_drewN | apply below_drew1 | refine below_set ?_ GE145.out) | exact HB.out)) hb); have n3_ := Aside0.mk (hbox); have n4_ := Aside0.mk ((by rw [hg]; exact (below_size (by repeat (first | (with_reducible first | exact HB.out | apply below_alloc | apply pw_below_drewN | apply below_drew1 | refine below_set ?_ GE145.out) | exact HB.out))) : w.heap.size ≤ gb158)); have n5_ := Aside0.mk ((by rw [hg]; exact (below_size (by repeat (first | (with_reducible first | exact HB.out | apply below_alloc | apply pw_below_drewN | apply below_drew1 | refine below_set ?_ GE145.out) | exact HB.out))) : w.heap.size ≤ gb158)); have n6_ := Aside0.mk ((by rw [hg]; exact Nat.ne_of_lt (blk_lt (g := gb145) (o := .cells #[.int .i64 a1_0, .string a1_1, .string a1_2, .string a1_3, .string a1_4, .string a1_5, .string a1_6, .string a1_7, .string a1_8] 24 (0, 0)) (by (with_reducible repeat (first | refine blk_drewN ?_ _ | refine blk_drew ?_ | refine blk_alloc ?_ _)); exact BK145.out)) : gb145 ≠ gb158)); have n7_ := Aside0.mk ((by rw [hg]; exact Nat.ne_of_gt (blk_lt (g := gb145) (o := .cells #[.int .i64 a1_0, .string a1_1, .string a1_2, .string a1_3, .string a1_4, .string a1_5, .string a1_6, .string a1_7, .string a1_8] 24 (0, 0)) (by (with_reducible repeat (first | refine blk_drewN ?_ _ | refine blk_drew ?_ | refine blk_alloc ?_ _)); exact BK145.out)) : gb158 ≠ gb145)); clear HO_5; clear BK145; clear HB; have HO_5 := n0_; have BK145 := n1_; have HB := n2_; have BK158 := n3_; have GW158 := n4_; have GE158 := n5_; have NB145_158 := n6_; have NB158_145 := n7_; clear n0_ n1_ n2_ n3_ n4_ n5_ n6_ n7_; clear hb hbox hg; have hnb40 := NB158_145.out; have hnc40 := NB145_158.out; have hcz41_0 : w39.cell? ⟨gb158, 0, none⟩ = some (.string (⟨#[]⟩ : ByteArray)) := (blk_cell BK158.out 0).trans rfl; have hcz41_1 : w39.cell? ⟨gb158, 1, none⟩ = some (.int .i64 0) := (blk_cell BK158.out 1).trans rfl; have hfz41_0 := blk_frozen BK158.out 0; have hfz41_1 := blk_frozen BK158.out 1))
                              have n0_ : Aside0 (Kd.R Kd.string 9 ((w39.setCell ⟨gb158, 0, none⟩ (.string ((rd_T33 l0 x42_3).f0))).setCell ⟨gb158, 1, none⟩ (.int .i64 ((rd_T33 l0 x42_3).f1))) w.heap.size (fun _ => True) (.slice Ao33 t154.length co33) t154) := ⟨by (with_reducible repeat (first | apply Kd.R_alloc | apply Kd.R_drewN | apply Kd.R_drew)); exact Kd.R_mono (Kd.R_far (p := ⟨gb158, 1, none⟩) (Kd.R_far (p := ⟨gb158, 0, none⟩) (Kd.R_types HO_5.out BK158.out (by decide)) (fun _ hk => hk.2) (.string ((rd_T33 l0 x42_3).f0))) (fun _ hk => hk.2) (.int .i64 ((rd_T33 l0 x42_3).f1))) (fun _ hk => trivial)⟩
                              have n1_ : Aside0 (((w39.setCell ⟨gb158, 0, none⟩ (.string ((rd_T33 l0 x42_3).f0))).setCell ⟨gb158, 1, none⟩ (.int .i64 ((rd_T33 l0 x42_3).f1))).heap[gb145]? = some (.cells #[.int .i64 a1_0, .string a1_1, .string a1_2, .string a1_3, .string a1_4, .string a1_5, .string a1_6, .string a1_7, .string a1_8] 24 (0, 0))) := ⟨by (with_reducible repeat (first | refine blk_drewN ?_ _ | refine blk_drew ?_ | refine blk_alloc ?_ _)); refine blk_far ?_ NB145_158.out _; (with_reducible repeat (first | refine blk_drewN ?_ _ | refine blk_drew ?_ | refine blk_alloc ?_ _)); refine blk_far ?_ NB145_158.out _; (with_reducible repeat (first | refine blk_drewN ?_ _ | refine blk_drew ?_ | refine blk_alloc ?_ _)); exact BK145.out⟩
                              have n2_ : Aside0 (((w39.setCell ⟨gb158, 0, none⟩ (.string ((rd_T33 l0 x42_3).f0))).setCell ⟨gb158, 1, none⟩ (.int .i64 ((rd_T33 l0 x42_3).f1))).heap[gb158]? = some (.cells #[.string ((rd_T33 l0 x42_3).f0), .int .i64 ((rd_T33 l0 x42_3).f1)] 33 (0, 0))) := ⟨by (with_reducible repeat (first | refine blk_drewN ?_ _ | refine blk_drew ?_ | refine blk_alloc ?_ _)); refine blk_put (cs := #[.string ((rd_T33 l0 x42_3).f0), .int .i64 0]) ?_ 1 _ rfl; (with_reducible repeat (first | refine blk_drewN ?_ _ | refine blk_drew ?_ | refine blk_alloc ?_ _)); refine blk_put (cs := #[.string (⟨#[]⟩ : ByteArray), .int .i64 0]) ?_ 0 _ rfl; (with_reducible repeat (first | refine blk_drewN ?_ _ | refine blk_drew ?_ | refine blk_alloc ?_ _)); exact BK158.out⟩
                              have n3_ : Aside0 (Below w.heap.size w ((w39.setCell ⟨gb158, 0, none⟩ (.string ((rd_T33 l0 x42_3).f0))).setCell ⟨gb158, 1, none⟩ (.int .i64 ((rd_T33 l0 x42_3).f1)))) := ⟨by repeat (first | (with_reducible first | exact HB.out | apply below_alloc | apply pw_below_drewN | apply below_drew1 | refine below_set ?_ GE145.out | refine below_set ?_ GE158.out) | exact HB.out)⟩
                              (try clear HO_5)
                              (try clear BK145)
                              (try clear BK158)
                              (try clear HB)
                              generalize ((w39.setCell ⟨gb158, 0, none⟩ (.string ((rd_T33 l0 x42_3).f0))).setCell ⟨gb158, 1, none⟩ (.int .i64 ((rd_T33 l0 x42_3).f1))) = w42 at n0_ n1_ n2_ n3_ ⊢
                              have HO_5 := n0_
                              have BK145 := n1_
                              have BK158 := n2_
                              have HB := n3_
                              clear n0_ n1_ n2_ n3_
                              have n0_ := Aside0.mk (Kd.R_drew HO_5.out)
                              have n1_ := Aside0.mk (blk_drew BK145.out)
                              have n2_ := Aside0.mk (blk_drew BK158.out)
                              have n3_ := Aside0.mk (below_drew1 HB.out)
                              clear HO_5
                              clear BK145
                              clear BK158
                              clear HB
                              have HO_5 := n0_
                              have BK145 := n1_
                              have BK158 := n2_
                              have HB := n3_
                              clear n0_ n1_ n2_ n3_
                              have p159 : 0 ≤ (x42_3 : Int) := of_decide_eq_true (by first | (with_reducible assumption) | assumption)
                              have q159 : x42_3 < (t154.length : Int) := of_decide_eq_true (by first | (with_reducible assumption) | assumption)
                              obtain ⟨ad159, e159, hx159_0⟩ := Kd.at_string (Kd.R_reads' HO_5.out).2.2 x42_3 p159 q159
                              cases e159
                              (try simp only [Go.IntWalk.toNatUp] at hx159_0)
                              replace p159 := eq_true p159
                              replace q159 := eq_true q159
                              refine start_ (n := 10) (S := fun w' => w'.cell? ⟨gb158, 0, none⟩ = some (.string ((rd_T33 l0 x42_3).f0)) ∧ w'.cell? ⟨gb158, 1, none⟩ = some (.int .i64 ((rd_T33 l0 x42_3).f1)) ∧ w'.cell? (ad159.add (x42_3).toNat) = some (.string (rdOf ByteArray.empty t154 x42_3))) (ds := []) #[false, false, false, false, false, false, false, false, false, false] (by kernel_rfl) rfl rfl ⟨(blk_cell BK158.out 0).trans rfl, (blk_cell BK158.out 1).trans rfl, hx159_0⟩ (fun hHeld => ?_); refine with_tabW laws_FnListLines.tab11 laws_FnListLines.bits11 (fun HT_ HW_ => ?_)
                              generalize w42.drew = w43 at HO_5 BK145 BK158 HB hx159_0 hHeld ⊢
                              refine pure_ (i := 0) (N := some 47) (v := ?_) (a' := ?_) #[true, false, false, false, false, false, false, false, false, false] rfl rfl (any_of HT_.out (by kernel_rfl)) (fun _ _ _ h => h) (Or.inl ⟨by rfl, ?_⟩) ?_ ?_
                              rotate_left
                              · intro w'
                                go_simp
                                with_reducible rfl
                              rotate_left
                              · simp only [Act.put, List.setIfInBounds_toArray, List.set_cons_zero, List.set_cons_succ, i64_w, i32_w]
                                rfl
                              refine pure_ (i := 1) (N := some 48) (v := ?_) (a' := ?_) #[true, true, false, false, false, false, false, false, false, false] rfl rfl (any_of HT_.out (by kernel_rfl)) (fun _ _ _ h => h) (Or.inl ⟨by rfl, ?_⟩) ?_ ?_
                              rotate_left
                              · intro w'
                                go_simp
                                with_reducible rfl
                              rotate_left
                              · simp only [Act.put, List.setIfInBounds_toArray, List.set_cons_zero, List.set_cons_succ, i64_w, i32_w]
                                rfl
                              refine pure_ (i := 2) (N := some 49) (v := ?_) (a' := ?_) #[true, true, true, false, false, false, false, false, false, false] rfl rfl (any_of HT_.out (by kernel_rfl)) (fun _ _ _ h => h) (Or.inl ⟨by rfl, ?_⟩) ?_ ?_
                              rotate_left
                              · intro w'
                                go_simp
                                with_reducible rfl
                              rotate_left
                              · simp only [Act.put, List.setIfInBounds_toArray, List.set_cons_zero, List.set_cons_succ, i64_w, i32_w]
                                rfl
                              refine pure_ (i := 5) (N := some 52) (v := ?_) (a' := ?_) #[true, true, true, false, false, true, false, false, false, false] rfl rfl (any_of HT_.out (by kernel_rfl)) (fun _ _ _ h => h) (Or.inl ⟨by rfl, ?_⟩) ?_ ?_
                              rotate_left
                              · intro w'
                                go_simp
                                with_reducible rfl
                              rotate_left
                              · simp only [Act.put, List.setIfInBounds_toArray, List.set_cons_zero, List.set_cons_succ, i64_w, i32_w]
                                rfl
                              refine take_ (i := 3) (N := some 50) (v := ?_) (a' := ?_) #[true, true, true, true, false, true, false, false, false, false] rfl rfl (take_ofW HT_.out HW_.out (by kernel_rfl)) (fun _ _ _ h => h) (Or.inl ⟨by rfl, ?_⟩) hHeld ?_ ?_
                              rotate_left
                              · rintro w' ⟨s0, s1, s2⟩
                                go_simp
                                with_reducible rfl
                              rotate_left
                              · simp only [Act.put, List.setIfInBounds_toArray, List.set_cons_zero, List.set_cons_succ, i64_w, i32_w]
                                rfl
                              refine pure_ (i := 4) (N := some 51) (v := ?_) (a' := ?_) #[true, true, true, true, true, true, false, false, false, false] rfl rfl (any_of HT_.out (by kernel_rfl)) (fun _ _ _ h => h) (Or.inl ⟨by rfl, ?_⟩) ?_ ?_
                              rotate_left
                              · intro w'
                                go_simp
                                with_reducible rfl
                              rotate_left
                              · simp only [Act.put, List.setIfInBounds_toArray, List.set_cons_zero, List.set_cons_succ, i64_w, i32_w]
                                rfl
                              refine take_ (i := 6) (N := some 53) (v := ?_) (a' := ?_) #[true, true, true, true, true, true, true, false, false, false] rfl rfl (take_ofW HT_.out HW_.out (by kernel_rfl)) (fun _ _ _ h => h) (Or.inl ⟨by rfl, ?_⟩) hHeld ?_ ?_
                              rotate_left
                              · rintro w' ⟨s0, s1, s2⟩
                                go_simp
                                with_reducible rfl
                              rotate_left
                              · simp only [Act.put, List.setIfInBounds_toArray, List.set_cons_zero, List.set_cons_succ, i64_w, i32_w]
                                rfl
                              refine pure_ (i := 7) (N := some 54) (v := ?_) (a' := ?_) #[true, true, true, true, true, true, true, true, false, false] rfl rfl (any_of HT_.out (by kernel_rfl)) (fun _ _ _ h => h) (Or.inl ⟨by rfl, ?_⟩) ?_ ?_
                              rotate_left
                              · intro w'
                                go_simp
                                with_reducible rfl
                              rotate_left
                              · simp only [Act.put, List.setIfInBounds_toArray, List.set_cons_zero, List.set_cons_succ, i64_w, i32_w]
                                rfl
                              refine pure_ (i := 8) (N := some 55) (v := ?_) (a' := ?_) #[true, true, true, true, true, true, true, true, true, false] rfl rfl (any_of HT_.out (by kernel_rfl)) (fun _ _ _ h => h) (Or.inl ⟨by rfl, ?_⟩) ?_ ?_
                              rotate_left
                              · intro w'
                                go_simp
                                with_reducible rfl
                              rotate_left
                              · simp only [Act.put, List.setIfInBounds_toArray, List.set_cons_zero, List.set_cons_succ, i64_w, i32_w]
                                rfl
                              refine pure_ (i := 9) (N := some 8) (v := ?_) (a' := ?_) #[true, true, true, true, true, true, true, true, true, true] rfl rfl (any_of HT_.out (by kernel_rfl)) (fun _ _ _ h => h) (Or.inl ⟨by rfl, ?_⟩) ?_ ?_
                              rotate_left
                              · intro w'
                                go_simp
                                with_reducible rfl
                              rotate_left
                              · simp only [Act.put, List.setIfInBounds_toArray, List.set_cons_zero, List.set_cons_succ, i64_w, i32_w]
                                rfl
                              refine done_ (done_of HT_.out (by kernel_rfl)) ?_
                              try go_wp2
                              have n0_ := Aside0.mk (Kd.R_drew HO_5.out)
                              have n1_ := Aside0.mk (blk_drew BK145.out)
                              have n2_ := Aside0.mk (blk_drew BK158.out)
                              have n3_ := Aside0.mk (below_drew1 HB.out)
                              clear HO_5
                              clear BK145
                              clear BK158
                              clear HB
                              have HO_5 := n0_
                              have BK145 := n1_
                              have BK158 := n2_
                              have HB := n3_
                              clear n0_ n1_ n2_ n3_
                              refine start_ (n := 13) (S := fun w' => True) (ds := []) #[false, false, false, false, false, false, false, false, false, false, false, false, false] (by kernel_rfl) rfl rfl trivial (fun hHeld => ?_); refine with_tabW laws_FnListLines.tab12 laws_FnListLines.bits12 (fun HT_ HW_ => ?_)
                              generalize w43.drew = w44 at HO_5 BK145 BK158 HB hHeld ⊢
                              refine pure_ (i := 0) (N := some 56) (v := ?_) (a' := ?_) #[true, false, false, false, false, false, false, false, false, false, false, false, false] rfl rfl (any_of HT_.out (by kernel_rfl)) (fun _ _ _ h => h) (Or.inl ⟨by rfl, ?_⟩) ?_ ?_
                              rotate_left
                              · intro w'
                                go_simp
                                with_reducible rfl
                              rotate_left
                              · simp only [Act.put, List.setIfInBounds_toArray, List.set_cons_zero, List.set_cons_succ, i64_w, i32_w]
                                rfl
                              refine pure_ (i := 1) (N := some 57) (v := ?_) (a' := ?_) #[true, true, false, false, false, false, false, false, false, false, false, false, false] rfl rfl (any_of HT_.out (by kernel_rfl)) (fun _ _ _ h => h) (Or.inl ⟨by rfl, ?_⟩) ?_ ?_
                              rotate_left
                              · intro w'
                                go_simp
                                with_reducible rfl
                              rotate_left
                              · simp only [Act.put, List.setIfInBounds_toArray, List.set_cons_zero, List.set_cons_succ, i64_w, i32_w]
                                rfl
                              refine pure_ (i := 2) (N := some 58) (v := ?_) (a' := ?_) #[true, true, true, false, false, false, false, false, false, false, false, false, false] rfl rfl (any_of HT_.out (by kernel_rfl)) (fun _ _ _ h => h) (Or.inl ⟨by rfl, ?_⟩) ?_ ?_
                              rotate_left
                              · intro w'
                                go_simp
                                with_reducible rfl
                              rotate_left
                              · simp only [Act.put, List.setIfInBounds_toArray, List.set_cons_zero, List.set_cons_succ, i64_w, i32_w]
                                rfl
                              refine pure_ (i := 3) (N := some 59) (v := undef) (a' := ?_) #[true, true, true, true, false, false, false, false, false, false, false, false, false] rfl rfl (any_of HT_.out (by kernel_rfl)) (fun _ _ _ h => h) (Or.inr ⟨by rfl, rfl⟩) ?_ ?_
                              rotate_left
                              · simp only [Act.put, List.setIfInBounds_toArray, List.set_cons_zero, List.set_cons_succ, i64_w, i32_w]
                                rfl
                              refine pure_ (i := 4) (N := some 60) (v := undef) (a' := ?_) #[true, true, true, true, true, false, false, false, false, false, false, false, false] rfl rfl (any_of HT_.out (by kernel_rfl)) (fun _ _ _ h => h) (Or.inr ⟨by rfl, rfl⟩) ?_ ?_
                              rotate_left
                              · simp only [Act.put, List.setIfInBounds_toArray, List.set_cons_zero, List.set_cons_succ, i64_w, i32_w]
                                rfl
                              refine pure_ (i := 5) (N := some 61) (v := undef) (a' := ?_) #[true, true, true, true, true, true, false, false, false, false, false, false, false] rfl rfl (any_of HT_.out (by kernel_rfl)) (fun _ _ _ h => h) (Or.inr ⟨by rfl, rfl⟩) ?_ ?_
                              rotate_left
                              · simp only [Act.put, List.setIfInBounds_toArray, List.set_cons_zero, List.set_cons_succ, i64_w, i32_w]
                                rfl
                              refine pure_ (i := 6) (N := some 62) (v := undef) (a' := ?_) #[true, true, true, true, true, true, true, false, false, false, false, false, false] rfl rfl (any_of HT_.out (by kernel_rfl)) (fun _ _ _ h => h) (Or.inr ⟨by rfl, rfl⟩) ?_ ?_
                              rotate_left
                              · simp only [Act.put, List.setIfInBounds_toArray, List.set_cons_zero, List.set_cons_succ, i64_w, i32_w]
                                rfl
                              refine pure_ (i := 7) (N := some 63) (v := undef) (a' := ?_) #[true, true, true, true, true, true, true, true, false, false, false, false, false] rfl rfl (any_of HT_.out (by kernel_rfl)) (fun _ _ _ h => h) (Or.inr ⟨by rfl, rfl⟩) ?_ ?_
                              rotate_left
                              · simp only [Act.put, List.setIfInBounds_toArray, List.set_cons_zero, List.set_cons_succ, i64_w, i32_w]
                                rfl
                              refine pure_ (i := 8) (N := some 64) (v := undef) (a' := ?_) #[true, true, true, true, true, true, true, true, true, false, false, false, false] rfl rfl (any_of HT_.out (by kernel_rfl)) (fun _ _ _ h => h) (Or.inr ⟨by rfl, rfl⟩) ?_ ?_
                              rotate_left
                              · simp only [Act.put, List.setIfInBounds_toArray, List.set_cons_zero, List.set_cons_succ, i64_w, i32_w]
                                rfl
                              refine pure_ (i := 9) (N := some 65) (v := undef) (a' := ?_) #[true, true, true, true, true, true, true, true, true, true, false, false, false] rfl rfl (any_of HT_.out (by kernel_rfl)) (fun _ _ _ h => h) (Or.inr ⟨by rfl, rfl⟩) ?_ ?_
                              rotate_left
                              · simp only [Act.put, List.setIfInBounds_toArray, List.set_cons_zero, List.set_cons_succ, i64_w, i32_w]
                                rfl
                              refine pure_ (i := 10) (N := some 66) (v := undef) (a' := ?_) #[true, true, true, true, true, true, true, true, true, true, true, false, false] rfl rfl (any_of HT_.out (by kernel_rfl)) (fun _ _ _ h => h) (Or.inr ⟨by rfl, rfl⟩) ?_ ?_
                              rotate_left
                              · simp only [Act.put, List.setIfInBounds_toArray, List.set_cons_zero, List.set_cons_succ, i64_w, i32_w]
                                rfl
                              refine pure_ (i := 11) (N := some 67) (v := undef) (a' := ?_) #[true, true, true, true, true, true, true, true, true, true, true, true, false] rfl rfl (any_of HT_.out (by kernel_rfl)) (fun _ _ _ h => h) (Or.inr ⟨by rfl, rfl⟩) ?_ ?_
                              rotate_left
                              · simp only [Act.put, List.setIfInBounds_toArray, List.set_cons_zero, List.set_cons_succ, i64_w, i32_w]
                                rfl
                              refine pure_ (i := 12) (N := some 68) (v := ?_) (a' := ?_) #[true, true, true, true, true, true, true, true, true, true, true, true, true] rfl rfl (any_of HT_.out (by kernel_rfl)) (fun _ _ _ h => h) (Or.inl ⟨by rfl, ?_⟩) ?_ ?_
                              rotate_left
                              · intro w'
                                go_simp
                                with_reducible rfl
                              rotate_left
                              · simp only [Act.put, List.setIfInBounds_toArray, List.set_cons_zero, List.set_cons_succ, i64_w, i32_w]
                                rfl
                              refine done_ (done_of HT_.out (by kernel_rfl)) ?_
                              try go_wp2
                              go_ret
                              exact ⟨by first | rfl | (simp [errW_none, errW_some] <;> rfl) | (simp [*, errW_none, errW_some] <;> rfl), by repeat (first | (with_reducible first | exact HB.out | apply below_alloc | apply pw_below_drewN | apply below_drew1 | refine below_set ?_ GE145.out | refine below_set ?_ GE158.out) | exact HB.out)⟩
                            · rw [if_neg c38] at H
                              have c38b0 : decide ((wrap64 (((rdOf ByteArray.empty t154 x42_3).size : Int) - (((rd_T33 l0 x42_3).f0).size : Int))) < 0) = false := decide_eq_false c38
                              clear c38
                              obtain ⟨ji45, hji45⟩ : ∃ j_ : Int, (wrap64 (((rdOf ByteArray.empty t154 x42_3).size : Int) - (((rd_T33 l0 x42_3).f0).size : Int))) = j_ := ⟨_, rfl⟩
                              replace H : (if 0 ≤ (ji45) then (if (ji45) ≤ ((rdOf ByteArray.empty t154 x42_3).size : Int) then (if ((rdOf ByteArray.empty t154 x42_3).extract ((ji45) : Int).toNat (rdOf ByteArray.empty t154 x42_3).size).toList = ((rd_T33 l0 x42_3).f0).toList then (laws_FnListLines.l0 k3 t154 l0 (l0.length : Int) (wrap64 (x42_3 + 1))) else (some false)) else (none)) else (none)) = some r := by first | (rw [hji45] at H; exact H) | (simp only [hji45] at H ⊢; exact H)
                              (try rw [hji45] at c38b0)
                              have hji45w : (IntKind.i64.wrap (((rdOf ByteArray.empty t154 x42_3).size : Int) - (((rd_T33 l0 x42_3).f0).size : Int))) = ji45 := (i64_w _).trans hji45
                              by_cases c46 : 0 ≤ (ji45)
                              · rw [if_pos c46] at H
                                have c46b0 := eq_true c46
                                have c46b1 : decide (0 ≤ (ji45)) = true := decide_eq_true c46
                                clear c46
                                by_cases c47 : (ji45) ≤ ((rdOf ByteArray.empty t154 x42_3).size : Int)
                                · rw [if_pos c47] at H
                                  have c47b0 := eq_true c47
                                  have c47b1 : decide ((ji45) ≤ ((rdOf ByteArray.empty t154 x42_3).size : Int)) = true := decide_eq_true c47
                                  clear c47
                                  by_cases c48 : ((rdOf ByteArray.empty t154 x42_3).extract ((ji45) : Int).toNat (rdOf ByteArray.empty t154 x42_3).size).toList = ((rd_T33 l0 x42_3).f0).toList
                                  · rw [if_pos c48] at H
                                    have c48b0 : (((rdOf ByteArray.empty t154 x42_3).extract ((ji45) : Int).toNat (rdOf ByteArray.empty t154 x42_3).size).toList == ((rd_T33 l0 x42_3).f0).toList) = true := beq_iff_eq.mpr c48
                                    have c48b1 : (((rdOf ByteArray.empty t154 x42_3).extract ((ji45) : Int).toNat (rdOf ByteArray.empty t154 x42_3).size).toList != ((rd_T33 l0 x42_3).f0).toList) = false := bne_eq_false_iff_eq.mpr c48
                                    clear c48
                                    have H' := Aside0.mk H
                                    clear H
                                    have p157 : 0 ≤ (x42_3 : Int) := of_decide_eq_true (by first | (with_reducible assumption) | assumption)
                                    have q157 : x42_3 < (l0.length : Int) := of_decide_eq_true (by first | (with_reducible assumption) | assumption)
                                    obtain ⟨ad157, e157, hx157_0, hx157_1⟩ := at_T33 HR0.out x42_3 p157 q157
                                    cases e157
                                    replace hx157_0 := (HB.out.cell (World.block_lt_of_cell? w _ hx157_0)).trans hx157_0
                                    replace hx157_1 := (HB.out.cell (World.block_lt_of_cell? w _ hx157_1)).trans hx157_1
                                    (try simp only [Go.IntWalk.toNatUp] at hx157_0)
                                    (try simp only [Go.IntWalk.toNatUp] at hx157_1)
                                    replace p157 := eq_true p157
                                    replace q157 := eq_true q157
                                    try go_wp2_with (first | ((with_reducible refine gate_dst (N := 7) rfl ?_); (try (refine gate_guard (by rfl) ?_; dsimp only)); refine box_event ?hg (N := 7) ?hd (cs := #[.string (⟨#[]⟩ : ByteArray), .int .i64 0]) (t := 33) ?hr ?_; (case hd => rfl); (case hg => rfl); (case hr => first | (go_simp; done) | (go_simp; rfl)); intro gb158 hg w49 hbox hb; have n0_ := Aside0.mk (Kd.R_below (by (with_reducible repeat (first | apply Kd.R_alloc | apply Kd.R_drewN | apply Kd.R_drew)); exact HO_5.out) hb); have n1_ := Aside0.mk (blk_below (g := gb145) (o := .cells #[.int .i64 a1_0, .string a1_1, .string a1_2, .string a1_3, .string a1_4, .string a1_5, .string a1_6, .string a1_7, .string a1_8] 24 (0, 0)) (by (with_reducible repeat (first | refine blk_drewN ?_ _ | refine blk_drew ?_ | refine blk_alloc ?_ _)); exact BK145.out) hb); have n2_ := Aside0.mk (below_step (by repeat (first | (with_reducible first | exact HB.out | apply below_alloc | apply pw_below_drewN | apply below_drew1 | refine below_set ?_ GE145.out) | exact HB.out)) hb); have n3_ := Aside0.mk (hbox); have n4_ := Aside0.mk ((by rw [hg]; exact (below_size (by repeat (first | (with_reducible first | exact HB.out | apply below_alloc | apply pw_below_drewN | apply below_drew1 | refine below_set ?_ GE145.out) | exact HB.out))) : w.heap.size ≤ gb158)); have n5_ := Aside0.mk ((by rw [hg]; exact (below_size (by repeat (first | (with_reducible first | exact HB.out | apply below_alloc | apply pw_below_drewN | apply below_drew1 | refine below_set ?_ GE145.out) | exact HB.out))) : w.heap.size ≤ gb158)); have n6_ := Aside0.mk ((by rw [hg]; exact Nat.ne_of_lt (blk_lt (g := gb145) (o := .cells #[.int .i64 a1_0, .string a1_1, .string a1_2, .string a1_3, .string a1_4, .string a1_5, .string a1_6, .string a1_7, .string a1_8] 24 (0, 0)) (by (with_reducible repeat (first | refine blk_drewN ?_ _ | refine blk_drew ?_ | refine blk_alloc ?_ _)); exact BK145.out)) : gb145 ≠ gb158)); have n7_ := Aside0.mk ((by rw [hg]; exact Nat.ne_of_gt (blk_lt (g := gb145) (o := .cells #[.int .i64 a1_0, .string a1_1, .string a1_2, .string a1_3, .string a1_4, .string a1_5, .string a1_6, .string a1_7, .string a1_8] 24 (0, 0)) (by (with_reducible repeat (first | refine blk_drewN ?_ _ | refine blk_drew ?_ | refine blk_alloc ?_ _)); exact BK145.out)) : gb158 ≠ gb145)); clear HO_5; clear BK145; clear HB; have HO_5 := n0_; have BK145 := n1_; have HB := n2_; have BK158 := n3_; have GW158 := n4_; have GE158 := n5_; have NB145_158 := n6_; have NB158_145 := n7_; clear n0_ n1_ n2_ n3_ n4_ n5_ n6_ n7_; clear hb hbox hg; have hnb50 := NB158_145.out; have hnc50 := NB145_158.out; have hcz51_0 : w49.cell? ⟨gb158, 0, none⟩ = some (.string (⟨#[]⟩ : ByteArray)) := (blk_cell BK158.out 0).trans rfl; have hcz51_1 : w49.cell? ⟨gb158, 1, none⟩ = some (.int .i64 0) := (blk_cell BK158.out 1).trans rfl; have hfz51_0 := blk_frozen BK158.out 0; have hfz51_1 := blk_frozen BK158.out 1))
                                    have n0_ : Aside0 (Kd.R Kd.string 9 ((w49.setCell ⟨gb158, 0, none⟩ (.string ((rd_T33 l0 x42_3).f0))).setCell ⟨gb158, 1, none⟩ (.int .i64 ((rd_T33 l0 x42_3).f1))) w.heap.size (fun _ => True) (.slice Ao33 t154.length co33) t154) := ⟨by (with_reducible repeat (first | apply Kd.R_alloc | apply Kd.R_drewN | apply Kd.R_drew)); exact Kd.R_mono (Kd.R_far (p := ⟨gb158, 1, none⟩) (Kd.R_far (p := ⟨gb158, 0, none⟩) (Kd.R_types HO_5.out BK158.out (by decide)) (fun _ hk => hk.2) (.string ((rd_T33 l0 x42_3).f0))) (fun _ hk => hk.2) (.int .i64 ((rd_T33 l0 x42_3).f1))) (fun _ hk => trivial)⟩
                                    have n1_ : Aside0 (((w49.setCell ⟨gb158, 0, none⟩ (.string ((rd_T33 l0 x42_3).f0))).setCell ⟨gb158, 1, none⟩ (.int .i64 ((rd_T33 l0 x42_3).f1))).heap[gb145]? = some (.cells #[.int .i64 a1_0, .string a1_1, .string a1_2, .string a1_3, .string a1_4, .string a1_5, .string a1_6, .string a1_7, .string a1_8] 24 (0, 0))) := ⟨by (with_reducible repeat (first | refine blk_drewN ?_ _ | refine blk_drew ?_ | refine blk_alloc ?_ _)); refine blk_far ?_ NB145_158.out _; (with_reducible repeat (first | refine blk_drewN ?_ _ | refine blk_drew ?_ | refine blk_alloc ?_ _)); refine blk_far ?_ NB145_158.out _; (with_reducible repeat (first | refine blk_drewN ?_ _ | refine blk_drew ?_ | refine blk_alloc ?_ _)); exact BK145.out⟩
                                    have n2_ : Aside0 (((w49.setCell ⟨gb158, 0, none⟩ (.string ((rd_T33 l0 x42_3).f0))).setCell ⟨gb158, 1, none⟩ (.int .i64 ((rd_T33 l0 x42_3).f1))).heap[gb158]? = some (.cells #[.string ((rd_T33 l0 x42_3).f0), .int .i64 ((rd_T33 l0 x42_3).f1)] 33 (0, 0))) := ⟨by (with_reducible repeat (first | refine blk_drewN ?_ _ | refine blk_drew ?_ | refine blk_alloc ?_ _)); refine blk_put (cs := #[.string ((rd_T33 l0 x42_3).f0), .int .i64 0]) ?_ 1 _ rfl; (with_reducible repeat (first | refine blk_drewN ?_ _ | refine blk_drew ?_ | refine blk_alloc ?_ _)); refine blk_put (cs := #[.string (⟨#[]⟩ : ByteArray), .int .i64 0]) ?_ 0 _ rfl; (with_reducible repeat (first | refine blk_drewN ?_ _ | refine blk_drew ?_ | refine blk_alloc ?_ _)); exact BK158.out⟩
                                    have n3_ : Aside0 (Below w.heap.size w ((w49.setCell ⟨gb158, 0, none⟩ (.string ((rd_T33 l0 x42_3).f0))).setCell ⟨gb158, 1, none⟩ (.int .i64 ((rd_T33 l0 x42_3).f1)))) := ⟨by repeat (first | (with_reducible first | exact HB.out | apply below_alloc | apply pw_below_drewN | apply below_drew1 | refine below_set ?_ GE145.out | refine below_set ?_ GE158.out) | exact HB.out)⟩
                                    (try clear HO_5)
                                    (try clear BK145)
                                    (try clear BK158)
                                    (try clear HB)
                                    generalize ((w49.setCell ⟨gb158, 0, none⟩ (.string ((rd_T33 l0 x42_3).f0))).setCell ⟨gb158, 1, none⟩ (.int .i64 ((rd_T33 l0 x42_3).f1))) = w52 at n0_ n1_ n2_ n3_ ⊢
                                    have HO_5 := n0_
                                    have BK145 := n1_
                                    have BK158 := n2_
                                    have HB := n3_
                                    clear n0_ n1_ n2_ n3_
                                    have n0_ := Aside0.mk (Kd.R_drew HO_5.out)
                                    have n1_ := Aside0.mk (blk_drew BK145.out)
                                    have n2_ := Aside0.mk (blk_drew BK158.out)
                                    have n3_ := Aside0.mk (below_drew1 HB.out)
                                    clear HO_5
                                    clear BK145
                                    clear BK158
                                    clear HB
                                    have HO_5 := n0_
                                    have BK145 := n1_
                                    have BK158 := n2_
                                    have HB := n3_
                                    clear n0_ n1_ n2_ n3_
                                    have p159 : 0 ≤ (x42_3 : Int) := of_decide_eq_true (by first | (with_reducible assumption) | assumption)
                                    have q159 : x42_3 < (t154.length : Int) := of_decide_eq_true (by first | (with_reducible assumption) | assumption)
                                    obtain ⟨ad159, e159, hx159_0⟩ := Kd.at_string (Kd.R_reads' HO_5.out).2.2 x42_3 p159 q159
                                    cases e159
                                    (try simp only [Go.IntWalk.toNatUp] at hx159_0)
                                    replace p159 := eq_true p159
                                    replace q159 := eq_true q159
                                    refine start_ (n := 10) (S := fun w' => w'.cell? ⟨gb158, 0, none⟩ = some (.string ((rd_T33 l0 x42_3).f0)) ∧ w'.cell? ⟨gb158, 1, none⟩ = some (.int .i64 ((rd_T33 l0 x42_3).f1)) ∧ w'.cell? (ad159.add (x42_3).toNat) = some (.string (rdOf ByteArray.empty t154 x42_3))) (ds := []) #[false, false, false, false, false, false, false, false, false, false] (by kernel_rfl) rfl rfl ⟨(blk_cell BK158.out 0).trans rfl, (blk_cell BK158.out 1).trans rfl, hx159_0⟩ (fun hHeld => ?_); refine with_tabW laws_FnListLines.tab11 laws_FnListLines.bits11 (fun HT_ HW_ => ?_)
                                    generalize w52.drew = w53 at HO_5 BK145 BK158 HB hx159_0 hHeld ⊢
                                    refine pure_ (i := 0) (N := some 47) (v := ?_) (a' := ?_) #[true, false, false, false, false, false, false, false, false, false] rfl rfl (any_of HT_.out (by kernel_rfl)) (fun _ _ _ h => h) (Or.inl ⟨by rfl, ?_⟩) ?_ ?_
                                    rotate_left
                                    · intro w'
                                      go_simp
                                      with_reducible rfl
                                    rotate_left
                                    · simp only [Act.put, List.setIfInBounds_toArray, List.set_cons_zero, List.set_cons_succ, i64_w, i32_w]
                                      rfl
                                    refine pure_ (i := 1) (N := some 48) (v := ?_) (a' := ?_) #[true, true, false, false, false, false, false, false, false, false] rfl rfl (any_of HT_.out (by kernel_rfl)) (fun _ _ _ h => h) (Or.inl ⟨by rfl, ?_⟩) ?_ ?_
                                    rotate_left
                                    · intro w'
                                      go_simp
                                      with_reducible rfl
                                    rotate_left
                                    · simp only [Act.put, List.setIfInBounds_toArray, List.set_cons_zero, List.set_cons_succ, i64_w, i32_w]
                                      rfl
                                    refine pure_ (i := 2) (N := some 49) (v := ?_) (a' := ?_) #[true, true, true, false, false, false, false, false, false, false] rfl rfl (any_of HT_.out (by kernel_rfl)) (fun _ _ _ h => h) (Or.inl ⟨by rfl, ?_⟩) ?_ ?_
                                    rotate_left
                                    · intro w'
                                      go_simp
                                      with_reducible rfl
                                    rotate_left
                                    · simp only [Act.put, List.setIfInBounds_toArray, List.set_cons_zero, List.set_cons_succ, i64_w, i32_w]
                                      rfl
                                    refine pure_ (i := 5) (N := some 52) (v := ?_) (a' := ?_) #[true, true, true, false, false, true, false, false, false, false] rfl rfl (any_of HT_.out (by kernel_rfl)) (fun _ _ _ h => h) (Or.inl ⟨by rfl, ?_⟩) ?_ ?_
                                    rotate_left
                                    · intro w'
                                      go_simp
                                      with_reducible rfl
                                    rotate_left
                                    · simp only [Act.put, List.setIfInBounds_toArray, List.set_cons_zero, List.set_cons_succ, i64_w, i32_w]
                                      rfl
                                    refine take_ (i := 3) (N := some 50) (v := ?_) (a' := ?_) #[true, true, true, true, false, true, false, false, false, false] rfl rfl (take_ofW HT_.out HW_.out (by kernel_rfl)) (fun _ _ _ h => h) (Or.inl ⟨by rfl, ?_⟩) hHeld ?_ ?_
                                    rotate_left
                                    · rintro w' ⟨s0, s1, s2⟩
                                      go_simp
                                      with_reducible rfl
                                    rotate_left
                                    · simp only [Act.put, List.setIfInBounds_toArray, List.set_cons_zero, List.set_cons_succ, i64_w, i32_w]
                                      rfl
                                    refine pure_ (i := 4) (N := some 51) (v := ?_) (a' := ?_) #[true, true, true, true, true, true, false, false, false, false] rfl rfl (any_of HT_.out (by kernel_rfl)) (fun _ _ _ h => h) (Or.inl ⟨by rfl, ?_⟩) ?_ ?_
                                    rotate_left
                                    · intro w'
                                      go_simp
                                      with_reducible rfl
                                    rotate_left
                                    · simp only [Act.put, List.setIfInBounds_toArray, List.set_cons_zero, List.set_cons_succ, i64_w, i32_w]
                                      rfl
                                    refine take_ (i := 6) (N := some 53) (v := ?_) (a' := ?_) #[true, true, true, true, true, true, true, false, false, false] rfl rfl (take_ofW HT_.out HW_.out (by kernel_rfl)) (fun _ _ _ h => h) (Or.inl ⟨by rfl, ?_⟩) hHeld ?_ ?_
                                    rotate_left
                                    · rintro w' ⟨s0, s1, s2⟩
                                      go_simp
                                      with_reducible rfl
                                    rotate_left
                                    · simp only [Act.put, List.setIfInBounds_toArray, List.set_cons_zero, List.set_cons_succ, i64_w, i32_w]
                                      rfl
                                    refine pure_ (i := 7) (N := some 54) (v := ?_) (a' := ?_) #[true, true, true, true, true, true, true, true, false, false] rfl rfl (any_of HT_.out (by kernel_rfl)) (fun _ _ _ h => h) (Or.inl ⟨by rfl, ?_⟩) ?_ ?_
                                    rotate_left
                                    · intro w'
                                      go_simp
                                      with_reducible rfl
                                    rotate_left
                                    · simp only [Act.put, List.setIfInBounds_toArray, List.set_cons_zero, List.set_cons_succ, i64_w, i32_w]
                                      rfl
                                    refine pure_ (i := 8) (N := some 55) (v := ?_) (a' := ?_) #[true, true, true, true, true, true, true, true, true, false] rfl rfl (any_of HT_.out (by kernel_rfl)) (fun _ _ _ h => h) (Or.inl ⟨by rfl, ?_⟩) ?_ ?_
                                    rotate_left
                                    · intro w'
                                      go_simp
                                      with_reducible rfl
                                    rotate_left
                                    · simp only [Act.put, List.setIfInBounds_toArray, List.set_cons_zero, List.set_cons_succ, i64_w, i32_w]
                                      rfl
                                    refine pure_ (i := 9) (N := some 8) (v := ?_) (a' := ?_) #[true, true, true, true, true, true, true, true, true, true] rfl rfl (any_of HT_.out (by kernel_rfl)) (fun _ _ _ h => h) (Or.inl ⟨by rfl, ?_⟩) ?_ ?_
                                    rotate_left
                                    · intro w'
                                      go_simp
                                      with_reducible rfl
                                    rotate_left
                                    · simp only [Act.put, List.setIfInBounds_toArray, List.set_cons_zero, List.set_cons_succ, i64_w, i32_w]
                                      rfl
                                    refine done_ (done_of HT_.out (by kernel_rfl)) ?_
                                    try go_wp2
                                    have n0_ := Aside0.mk (Kd.R_drew HO_5.out)
                                    have n1_ := Aside0.mk (blk_drew BK145.out)
                                    have n2_ := Aside0.mk (blk_drew BK158.out)
                                    have n3_ := Aside0.mk (below_drew1 HB.out)
                                    clear HO_5
                                    clear BK145
                                    clear BK158
                                    clear HB
                                    have HO_5 := n0_
                                    have BK145 := n1_
                                    have BK158 := n2_
                                    have HB := n3_
                                    clear n0_ n1_ n2_ n3_
                                    have p160 : 0 ≤ (x42_3 : Int) := of_decide_eq_true (by first | (with_reducible assumption) | assumption)
                                    have q160 : x42_3 < (t154.length : Int) := of_decide_eq_true (by first | (with_reducible assumption) | assumption)
                                    obtain ⟨ad160, e160, hx160_0⟩ := Kd.at_string (Kd.R_reads' HO_5.out).2.2 x42_3 p160 q160
                                    obtain rfl : ad159 = ad160 := (by injection e160)
                                    (try simp only [Go.IntWalk.toNatUp] at hx160_0)
                                    replace p160 := eq_true p160
                                    replace q160 := eq_true q160
                                    refine start_ (n := 13) (S := fun w' => w'.cell? ⟨gb158, 0, none⟩ = some (.string ((rd_T33 l0 x42_3).f0)) ∧ w'.cell? ⟨gb158, 1, none⟩ = some (.int .i64 ((rd_T33 l0 x42_3).f1)) ∧ w'.cell? (ad159.add (x42_3).toNat) = some (.string (rdOf ByteArray.empty t154 x42_3))) (ds := []) #[false, false, false, false, false, false, false, false, false, false, false, false, false] (by kernel_rfl) rfl rfl ⟨(blk_cell BK158.out 0).trans rfl, (blk_cell BK158.out 1).trans rfl, hx160_0⟩ (fun hHeld => ?_); refine with_tabW laws_FnListLines.tab12 laws_FnListLines.bits12 (fun HT_ HW_ => ?_)
                                    generalize w53.drew = w54 at HO_5 BK145 BK158 HB hx160_0 hHeld ⊢
                                    refine pure_ (i := 0) (N := some 56) (v := ?_) (a' := ?_) #[true, false, false, false, false, false, false, false, false, false, false, false, false] rfl rfl (any_of HT_.out (by kernel_rfl)) (fun _ _ _ h => h) (Or.inl ⟨by rfl, ?_⟩) ?_ ?_
                                    rotate_left
                                    · intro w'
                                      go_simp
                                      with_reducible rfl
                                    rotate_left
                                    · simp only [Act.put, List.setIfInBounds_toArray, List.set_cons_zero, List.set_cons_succ, i64_w, i32_w]
                                      rfl
                                    refine pure_ (i := 1) (N := some 57) (v := ?_) (a' := ?_) #[true, true, false, false, false, false, false, false, false, false, false, false, false] rfl rfl (any_of HT_.out (by kernel_rfl)) (fun _ _ _ h => h) (Or.inl ⟨by rfl, ?_⟩) ?_ ?_
                                    rotate_left
                                    · intro w'
                                      go_simp
                                      with_reducible rfl
                                    rotate_left
                                    · simp only [Act.put, List.setIfInBounds_toArray, List.set_cons_zero, List.set_cons_succ, i64_w, i32_w]
                                      rfl
                                    refine pure_ (i := 2) (N := some 58) (v := ?_) (a' := ?_) #[true, true, true, false, false, false, false, false, false, false, false, false, false] rfl rfl (any_of HT_.out (by kernel_rfl)) (fun _ _ _ h => h) (Or.inl ⟨by rfl, ?_⟩) ?_ ?_
                                    rotate_left
                                    · intro w'
                                      go_simp
                                      with_reducible rfl
                                    rotate_left
                                    · simp only [Act.put, List.setIfInBounds_toArray, List.set_cons_zero, List.set_cons_succ, i64_w, i32_w]
                                      rfl
                                    refine pure_ (i := 3) (N := some 59) (v := ?_) (a' := ?_) #[true, true, true, true, false, false, false, false, false, false, false, false, false] rfl rfl (any_of HT_.out (by kernel_rfl)) (fun _ _ _ h => h) (Or.inl ⟨by rfl, ?_⟩) ?_ ?_
                                    rotate_left
                                    · intro w'
                                      go_simp
                                      with_reducible rfl
                                    rotate_left
                                    · simp only [Act.put, List.setIfInBounds_toArray, List.set_cons_zero, List.set_cons_succ, i64_w, i32_w]
                                      rfl
                                    refine pure_ (i := 4) (N := some 60) (v := ?_) (a' := ?_) #[true, true, true, true, true, false, false, false, false, false, false, false, false] rfl rfl (any_of HT_.out (by kernel_rfl)) (fun _ _ _ h => h) (Or.inl ⟨by rfl, ?_⟩) ?_ ?_
                                    rotate_left
                                    · intro w'
                                      go_simp
                                      with_reducible rfl
                                    rotate_left
                                    · simp only [Act.put, List.setIfInBounds_toArray, List.set_cons_zero, List.set_cons_succ, i64_w, i32_w]
                                      rfl
                                    refine pure_ (i := 5) (N := some 61) (v := ?_) (a' := ?_) #[true, true, true, true, true, true, false, false, false, false, false, false, false] rfl rfl (any_of HT_.out (by kernel_rfl)) (fun _ _ _ h => h) (Or.inl ⟨by rfl, ?_⟩) ?_ ?_
                                    rotate_left
                                    · intro w'
                                      go_simp
                                      with_reducible rfl
                                    rotate_left
                                    · simp only [Act.put, List.setIfInBounds_toArray, List.set_cons_zero, List.set_cons_succ, i64_w, i32_w]
                                      rfl
                                    refine pure_ (i := 7) (N := some 63) (v := ?_) (a' := ?_) #[true, true, true, true, true, true, false, true, false, false, false, false, false] rfl rfl (any_of HT_.out (by kernel_rfl)) (fun _ _ _ h => h) (Or.inl ⟨by rfl, ?_⟩) ?_ ?_
                                    rotate_left
                                    · intro w'
                                      go_simp
                                      with_reducible rfl
                                    rotate_left
                                    · simp only [Act.put, List.setIfInBounds_toArray, List.set_cons_zero, List.set_cons_succ, i64_w, i32_w]
                                      rfl
                                    refine pure_ (i := 9) (N := some 65) (v := ?_) (a' := ?_) #[true, true, true, true, true, true, false, true, false, true, false, false, false] rfl rfl (any_of HT_.out (by kernel_rfl)) (fun _ _ _ h => h) (Or.inl ⟨by rfl, ?_⟩) ?_ ?_
                                    rotate_left
                                    · intro w'
                                      go_simp
                                      with_reducible rfl
                                    rotate_left
                                    · simp only [Act.put, List.setIfInBounds_toArray, List.set_cons_zero, List.set_cons_succ, i64_w, i32_w]
                                      rfl
                                    refine take_ (i := 6) (N := some 62) (v := ?_) (a' := ?_) #[true, true, true, true, true, true, true, true, false, true, false, false, false] rfl rfl (take_ofW HT_.out HW_.out (by kernel_rfl)) (fun _ _ _ h => h) (Or.inl ⟨by rfl, ?_⟩) hHeld ?_ ?_
                                    rotate_left
                                    · rintro w' ⟨s0, s1, s2⟩
                                      go_simp
                                      with_reducible rfl
                                    rotate_left
                                    · simp only [Act.put, List.setIfInBounds_toArray, List.set_cons_zero, List.set_cons_succ, i64_w, i32_w]
                                      rfl
                                    refine pure_ (i := 8) (N := some 64) (v := ?_) (a' := ?_) #[true, true, true, true, true, true, true, true, true, true, false, false, false] rfl rfl (any_of HT_.out (by kernel_rfl)) (fun _ _ _ h => h) (Or.inl ⟨by rfl, ?_⟩) ?_ ?_
                                    rotate_left
                                    · intro w'
                                      go_simp
                                      with_reducible rfl
                                    rotate_left
                                    · simp only [Act.put, List.setIfInBounds_toArray, List.set_cons_zero, List.set_cons_succ, i64_w, i32_w]
                                      rfl
                                    refine take_ (i := 10) (N := some 66) (v := ?_) (a' := ?_) #[true, true, true, true, true, true, true, true, true, true, true, false, false] rfl rfl (take_ofW HT_.out HW_.out (by kernel_rfl)) (fun _ _ _ h => h) (Or.inl ⟨by rfl, ?_⟩) hHeld ?_ ?_
                                    rotate_left
                                    · rintro w' ⟨s0, s1, s2⟩
                                      go_simp
                                      with_reducible rfl
                                    rotate_left
                                    · simp only [Act.put, List.setIfInBounds_toArray, List.set_cons_zero, List.set_cons_succ, i64_w, i32_w]
                                      rfl
                                    refine pure_ (i := 11) (N := some 67) (v := ?_) (a' := ?_) #[true, true, true, true, true, true, true, true, true, true, true, true, false] rfl rfl (any_of HT_.out (by kernel_rfl)) (fun _ _ _ h => h) (Or.inl ⟨by rfl, ?_⟩) ?_ ?_
                                    rotate_left
                                    · intro w'
                                      go_simp
                                      with_reducible rfl
                                    rotate_left
                                    · simp only [Act.put, List.setIfInBounds_toArray, List.set_cons_zero, List.set_cons_succ, i64_w, i32_w]
                                      rfl
                                    refine pure_ (i := 12) (N := some 68) (v := ?_) (a' := ?_) #[true, true, true, true, true, true, true, true, true, true, true, true, true] rfl rfl (any_of HT_.out (by kernel_rfl)) (fun _ _ _ h => h) (Or.inl ⟨by rfl, ?_⟩) ?_ ?_
                                    rotate_left
                                    · intro w'
                                      go_simp
                                      with_reducible rfl
                                    rotate_left
                                    · simp only [Act.put, List.setIfInBounds_toArray, List.set_cons_zero, List.set_cons_succ, i64_w, i32_w]
                                      rfl
                                    refine done_ (done_of HT_.out (by kernel_rfl)) ?_
                                    try go_wp2
                                    go_roundg k3
                                    case measure => have := HJ2.out; have := HJ12.out; have := HK3.out; omega
                                    case rel => exact ⟨(wrap64 (x42_3 + 1)), (by first | rfl | (simp; done) | (simp [*]; done)), H', ⟨by have := HJ2.out; have := HJ12.out; have := HK3.out; omega⟩, ⟨by (with_reducible repeat (first | apply Kd.R_alloc | apply Kd.R_drewN | apply Kd.R_drew)); exact HO_5.out⟩, ⟨by (with_reducible repeat (first | refine blk_drewN ?_ _ | refine blk_drew ?_ | refine blk_alloc ?_ _)); exact BK145.out⟩, ⟨by repeat (first | (with_reducible first | exact HB.out | apply below_alloc | apply pw_below_drewN | apply below_drew1 | refine below_set ?_ GE145.out | refine below_set ?_ GE158.out) | exact HB.out)⟩⟩
                                  · rw [if_neg c48] at H
                                    have c48b0 : (((rdOf ByteArray.empty t154 x42_3).extract ((ji45) : Int).toNat (rdOf ByteArray.empty t154 x42_3).size).toList == ((rd_T33 l0 x42_3).f0).toList) = false := beq_eq_false_iff_ne.mpr c48
                                    have c48b1 : (((rdOf ByteArray.empty t154 x42_3).extract ((ji45) : Int).toNat (rdOf ByteArray.empty t154 x42_3).size).toList != ((rd_T33 l0 x42_3).f0).toList) = true := bne_iff_ne.mpr c48
                                    obtain rfl := Option.some.inj H
                                    have p157 : 0 ≤ (x42_3 : Int) := of_decide_eq_true (by first | (with_reducible assumption) | assumption)
                                    have q157 : x42_3 < (l0.length : Int) := of_decide_eq_true (by first | (with_reducible assumption) | assumption)
                                    obtain ⟨ad157, e157, hx157_0, hx157_1⟩ := at_T33 HR0.out x42_3 p157 q157
                                    cases e157
                                    replace hx157_0 := (HB.out.cell (World.block_lt_of_cell? w _ hx157_0)).trans hx157_0
                                    replace hx157_1 := (HB.out.cell (World.block_lt_of_cell? w _ hx157_1)).trans hx157_1
                                    (try simp only [Go.IntWalk.toNatUp] at hx157_0)
                                    (try simp only [Go.IntWalk.toNatUp] at hx157_1)
                                    replace p157 := eq_true p157
                                    replace q157 := eq_true q157
                                    try go_wp2_with (first | ((with_reducible refine gate_dst (N := 7) rfl ?_); (try (refine gate_guard (by rfl) ?_; dsimp only)); refine box_event ?hg (N := 7) ?hd (cs := #[.string (⟨#[]⟩ : ByteArray), .int .i64 0]) (t := 33) ?hr ?_; (case hd => rfl); (case hg => rfl); (case hr => first | (go_simp; done) | (go_simp; rfl)); intro gb158 hg w55 hbox hb; have n0_ := Aside0.mk (Kd.R_below (by (with_reducible repeat (first | apply Kd.R_alloc | apply Kd.R_drewN | apply Kd.R_drew)); exact HO_5.out) hb); have n1_ := Aside0.mk (blk_below (g := gb145) (o := .cells #[.int .i64 a1_0, .string a1_1, .string a1_2, .string a1_3, .string a1_4, .string a1_5, .string a1_6, .string a1_7, .string a1_8] 24 (0, 0)) (by (with_reducible repeat (first | refine blk_drewN ?_ _ | refine blk_drew ?_ | refine blk_alloc ?_ _)); exact BK145.out) hb); have n2_ := Aside0.mk (below_step (by repeat (first | (with_reducible first | exact HB.out | apply below_alloc | apply pw_below_drewN | apply below_drew1 | refine below_set ?_ GE145.out) | exact HB.out)) hb); have n3_ := Aside0.mk (hbox); have n4_ := Aside0.mk ((by rw [hg]; exact (below_size (by repeat (first | (with_reducible first | exact HB.out | apply below_alloc | apply pw_below_drewN | apply below_drew1 | refine below_set ?_ GE145.out) | exact HB.out))) : w.heap.size ≤ gb158)); have n5_ := Aside0.mk ((by rw [hg]; exact (below_size (by repeat (first | (with_reducible first | exact HB.out | apply below_alloc | apply pw_below_drewN | apply below_drew1 | refine below_set ?_ GE145.out) | exact HB.out))) : w.heap.size ≤ gb158)); have n6_ := Aside0.mk ((by rw [hg]; exact Nat.ne_of_lt (blk_lt (g := gb145) (o := .cells #[.int .i64 a1_0, .string a1_1, .string a1_2, .string a1_3, .string a1_4, .string a1_5, .string a1_6, .string a1_7, .string a1_8] 24 (0, 0)) (by (with_reducible repeat (first | refine blk_drewN ?_ _ | refine blk_drew ?_ | refine blk_alloc ?_ _)); exact BK145.out)) : gb145 ≠ gb158)); have n7_ := Aside0.mk ((by rw [hg]; exact Nat.ne_of_gt (blk_lt (g := gb145) (o := .cells #[.int .i64 a1_0, .string a1_1, .string a1_2, .string a1_3, .string a1_4, .string a1_5, .string a1_6, .string a1_7, .string a1_8] 24 (0, 0)) (by (with_reducible repeat (first | refine blk_drewN ?_ _ | refine blk_drew ?_ | refine blk_alloc ?_ _)); exact BK145.out)) : gb158 ≠ gb145)); clear HO_5; clear BK145; clear HB; have HO_5 := n0_; have BK145 := n1_; have HB := n2_; have BK158 := n3_; have GW158 := n4_; have GE158 := n5_; have NB145_158 := n6_; have NB158_145 := n7_; clear n0_ n1_ n2_ n3_ n4_ n5_ n6_ n7_; clear hb hbox hg; have hnb56 := NB158_145.out; have hnc56 := NB145_158.out; have hcz57_0 : w55.cell? ⟨gb158, 0, none⟩ = some (.string (⟨#[]⟩ : ByteArray)) := (blk_cell BK158.out 0).trans rfl; have hcz57_1 : w55.cell? ⟨gb158, 1, none⟩ = some (.int .i64 0) := (blk_cell BK158.out 1).trans rfl; have hfz57_0 := blk_frozen BK158.out 0; have hfz57_1 := blk_frozen BK158.out 1))
                                    have n0_ : Aside0 (Kd.R Kd.string 9 ((w55.setCell ⟨gb158, 0, none⟩ (.string ((rd_T33 l0 x42_3).f0))).setCell ⟨gb158, 1, none⟩ (.int .i64 ((rd_T33 l0 x42_3).f1))) w.heap.size (fun _ => True) (.slice Ao33 t154.length co33) t154) := ⟨by (with_reducible repeat (first | apply Kd.R_alloc | apply Kd.R_drewN | apply Kd.R_drew)); exact Kd.R_mono (Kd.R_far (p := ⟨gb158, 1, none⟩) (Kd.R_far (p := ⟨gb158, 0, none⟩) (Kd.R_types HO_5.out BK158.out (by decide)) (fun _ hk => hk.2) (.string ((rd_T33 l0 x42_3).f0))) (fun _ hk => hk.2) (.int .i64 ((rd_T33 l0 x42_3).f1))) (fun _ hk => trivial)⟩
                                    have n1_ : Aside0 (((w55.setCell ⟨gb158, 0, none⟩ (.string ((rd_T33 l0 x42_3).f0))).setCell ⟨gb158, 1, none⟩ (.int .i64 ((rd_T33 l0 x42_3).f1))).heap[gb145]? = some (.cells #[.int .i64 a1_0, .string a1_1, .string a1_2, .string a1_3, .string a1_4, .string a1_5, .string a1_6, .string a1_7, .string a1_8] 24 (0, 0))) := ⟨by (with_reducible repeat (first | refine blk_drewN ?_ _ | refine blk_drew ?_ | refine blk_alloc ?_ _)); refine blk_far ?_ NB145_158.out _; (with_reducible repeat (first | refine blk_drewN ?_ _ | refine blk_drew ?_ | refine blk_alloc ?_ _)); refine blk_far ?_ NB145_158.out _; (with_reducible repeat (first | refine blk_drewN ?_ _ | refine blk_drew ?_ | refine blk_alloc ?_ _)); exact BK145.out⟩
                                    have n2_ : Aside0 (((w55.setCell ⟨gb158, 0, none⟩ (.string ((rd_T33 l0 x42_3).f0))).setCell ⟨gb158, 1, none⟩ (.int .i64 ((rd_T33 l0 x42_3).f1))).heap[gb158]? = some (.cells #[.string ((rd_T33 l0 x42_3).f0), .int .i64 ((rd_T33 l0 x42_3).f1)] 33 (0, 0))) := ⟨by (with_reducible repeat (first | refine blk_drewN ?_ _ | refine blk_drew ?_ | refine blk_alloc ?_ _)); refine blk_put (cs := #[.string ((rd_T33 l0 x42_3).f0), .int .i64 0]) ?_ 1 _ rfl; (with_reducible repeat (first | refine blk_drewN ?_ _ | refine blk_drew ?_ | refine blk_alloc ?_ _)); refine blk_put (cs := #[.string (⟨#[]⟩ : ByteArray), .int .i64 0]) ?_ 0 _ rfl; (with_reducible repeat (first | refine blk_drewN ?_ _ | refine blk_drew ?_ | refine blk_alloc ?_ _)); exact BK158.out⟩
                                    have n3_ : Aside0 (Below w.heap.size w ((w55.setCell ⟨gb158, 0, none⟩ (.string ((rd_T33 l0 x42_3).f0))).setCell ⟨gb158, 1, none⟩ (.int .i64 ((rd_T33 l0 x42_3).f1)))) := ⟨by repeat (first | (with_reducible first | exact HB.out | apply below_alloc | apply pw_below_drewN | apply below_drew1 | refine below_set ?_ GE145.out | refine below_set ?_ GE158.out) | exact HB.out)⟩
                                    (try clear HO_5)
                                    (try clear BK145)
                                    (try clear BK158)
                                    (try clear HB)
                                    generalize ((w55.setCell ⟨gb158, 0, none⟩ (.string ((rd_T33 l0 x42_3).f0))).setCell ⟨gb158, 1, none⟩ (.int .i64 ((rd_T33 l0 x42_3).f1))) = w58 at n0_ n1_ n2_ n3_ ⊢
                                    have HO_5 := n0_
                                    have BK145 := n1_
                                    have BK158 := n2_
                                    have HB := n3_
                                    clear n0_ n1_ n2_ n3_
                                    have n0_ := Aside0.mk (Kd.R_drew HO_5.out)
                                    have n1_ := Aside0.mk (blk_drew BK145.out)
                                    have n2_ := Aside0.mk (blk_drew BK158.out)
                                    have n3_ := Aside0.mk (below_drew1 HB.out)
                                    clear HO_5
                                    clear BK145
                                    clear BK158
                                    clear HB
                                    have HO_5 := n0_
                                    have BK145 := n1_
                                    have BK158 := n2_
                                    have HB := n3_
                                    clear n0_ n1_ n2_ n3_
                                    have p159 : 0 ≤ (x42_3 : Int) := of_decide_eq_true (by first | (with_reducible assumption) | assumption)
                                    have q159 : x42_3 < (t154.length : Int) := of_decide_eq_true (by first | (with_reducible assumption) | assumption)
                                    obtain ⟨ad159, e159, hx159_0⟩ := Kd.at_string (Kd.R_reads' HO_5.out).2.2 x42_3 p159 q159
                                    cases e159
                                    (try simp only [Go.IntWalk.toNatUp] at hx159_0)
                                    replace p159 := eq_true p159
                                    replace q159 := eq_true q159
                                    refine start_ (n := 10) (S := fun w' => w'.cell? ⟨gb158, 0, none⟩ = some (.string ((rd_T33 l0 x42_3).f0)) ∧ w'.cell? ⟨gb158, 1, none⟩ = some (.int .i64 ((rd_T33 l0 x42_3).f1)) ∧ w'.cell? (ad159.add (x42_3).toNat) = some (.string (rdOf ByteArray.empty t154 x42_3))) (ds := []) #[false, false, false, false, false, false, false, false, false, false] (by kernel_rfl) rfl rfl ⟨(blk_cell BK158.out 0).trans rfl, (blk_cell BK158.out 1).trans rfl, hx159_0⟩ (fun hHeld => ?_); refine with_tabW laws_FnListLines.tab11 laws_FnListLines.bits11 (fun HT_ HW_ => ?_)
                                    generalize w58.drew = w59 at HO_5 BK145 BK158 HB hx159_0 hHeld ⊢
                                    refine pure_ (i := 0) (N := some 47) (v := ?_) (a' := ?_) #[true, false, false, false, false, false, false, false, false, false] rfl rfl (any_of HT_.out (by kernel_rfl)) (fun _ _ _ h => h) (Or.inl ⟨by rfl, ?_⟩) ?_ ?_
                                    rotate_left
                                    · intro w'
                                      go_simp
                                      with_reducible rfl
                                    rotate_left
                                    · simp only [Act.put, List.setIfInBounds_toArray, List.set_cons_zero, List.set_cons_succ, i64_w, i32_w]
                                      rfl
                                    refine pure_ (i := 1) (N := some 48) (v := ?_) (a' := ?_) #[true, true, false, false, false, false, false, false, false, false] rfl rfl (any_of HT_.out (by kernel_rfl)) (fun _ _ _ h => h) (Or.inl ⟨by rfl, ?_⟩) ?_ ?_
                                    rotate_left
                                    · intro w'
                                      go_simp
                                      with_reducible rfl
                                    rotate_left
                                    · simp only [Act.put, List.setIfInBounds_toArray, List.set_cons_zero, List.set_cons_succ, i64_w, i32_w]
                                      rfl
                                    refine pure_ (i := 2) (N := some 49) (v := ?_) (a' := ?_) #[true, true, true, false, false, false, false, false, false, false] rfl rfl (any_of HT_.out (by kernel_rfl)) (fun _ _ _ h => h) (Or.inl ⟨by rfl, ?_⟩) ?_ ?_
                                    rotate_left
                                    · intro w'
                                      go_simp
                                      with_reducible rfl
                                    rotate_left
                                    · simp only [Act.put, List.setIfInBounds_toArray, List.set_cons_zero, List.set_cons_succ, i64_w, i32_w]
                                      rfl
                                    refine pure_ (i := 5) (N := some 52) (v := ?_) (a' := ?_) #[true, true, true, false, false, true, false, false, false, false] rfl rfl (any_of HT_.out (by kernel_rfl)) (fun _ _ _ h => h) (Or.inl ⟨by rfl, ?_⟩) ?_ ?_
                                    rotate_left
                                    · intro w'
                                      go_simp
                                      with_reducible rfl
                                    rotate_left
                                    · simp only [Act.put, List.setIfInBounds_toArray, List.set_cons_zero, List.set_cons_succ, i64_w, i32_w]
                                      rfl
                                    refine take_ (i := 3) (N := some 50) (v := ?_) (a' := ?_) #[true, true, true, true, false, true, false, false, false, false] rfl rfl (take_ofW HT_.out HW_.out (by kernel_rfl)) (fun _ _ _ h => h) (Or.inl ⟨by rfl, ?_⟩) hHeld ?_ ?_
                                    rotate_left
                                    · rintro w' ⟨s0, s1, s2⟩
                                      go_simp
                                      with_reducible rfl
                                    rotate_left
                                    · simp only [Act.put, List.setIfInBounds_toArray, List.set_cons_zero, List.set_cons_succ, i64_w, i32_w]
                                      rfl
                                    refine pure_ (i := 4) (N := some 51) (v := ?_) (a' := ?_) #[true, true, true, true, true, true, false, false, false, false] rfl rfl (any_of HT_.out (by kernel_rfl)) (fun _ _ _ h => h) (Or.inl ⟨by rfl, ?_⟩) ?_ ?_
                                    rotate_left
                                    · intro w'
                                      go_simp
                                      with_reducible rfl
                                    rotate_left
                                    · simp only [Act.put, List.setIfInBounds_toArray, List.set_cons_zero, List.set_cons_succ, i64_w, i32_w]
                                      rfl
                                    refine take_ (i := 6) (N := some 53) (v := ?_) (a' := ?_) #[true, true, true, true, true, true, true, false, false, false] rfl rfl (take_ofW HT_.out HW_.out (by kernel_rfl)) (fun _ _ _ h => h) (Or.inl ⟨by rfl, ?_⟩) hHeld ?_ ?_
                                    rotate_left
                                    · rintro w' ⟨s0, s1, s2⟩
                                      go_simp
                                      with_reducible rfl
                                    rotate_left
                                    · simp only [Act.put, List.setIfInBounds_toArray, List.set_cons_zero, List.set_cons_succ, i64_w, i32_w]
                                      rfl
                                    refine pure_ (i := 7) (N := some 54) (v := ?_) (a' := ?_) #[true, true, true, true, true, true, true, true, false, false] rfl rfl (any_of HT_.out (by kernel_rfl)) (fun _ _ _ h => h) (Or.inl ⟨by rfl, ?_⟩) ?_ ?_
                                    rotate_left
                                    · intro w'
                                      go_simp
                                      with_reducible rfl
                                    rotate_left
                                    · simp only [Act.put, List.setIfInBounds_toArray, List.set_cons_zero, List.set_cons_succ, i64_w, i32_w]
                                      rfl
                                    refine pure_ (i := 8) (N := some 55) (v := ?_) (a' := ?_) #[true, true, true, true, true, true, true, true, true, false] rfl rfl (any_of HT_.out (by kernel_rfl)) (fun _ _ _ h => h) (Or.inl ⟨by rfl, ?_⟩) ?_ ?_
                                    rotate_left
                                    · intro w'
                                      go_simp
                                      with_reducible rfl
                                    rotate_left
                                    · simp only [Act.put, List.setIfInBounds_toArray, List.set_cons_zero, List.set_cons_succ, i64_w, i32_w]
                                      rfl
                                    refine pure_ (i := 9) (N := some 8) (v := ?_) (a' := ?_) #[true, true, true, true, true, true, true, true, true, true] rfl rfl (any_of HT_.out (by kernel_rfl)) (fun _ _ _ h => h) (Or.inl ⟨by rfl, ?_⟩) ?_ ?_
                                    rotate_left
                                    · intro w'
                                      go_simp
                                      with_reducible rfl
                                    rotate_left
                                    · simp only [Act.put, List.setIfInBounds_toArray, List.set_cons_zero, List.set_cons_succ, i64_w, i32_w]
                                      rfl
                                    refine done_ (done_of HT_.out (by kernel_rfl)) ?_
                                    try go_wp2
                                    have n0_ := Aside0.mk (Kd.R_drew HO_5.out)
                                    have n1_ := Aside0.mk (blk_drew BK145.out)
                                    have n2_ := Aside0.mk (blk_drew BK158.out)
                                    have n3_ := Aside0.mk (below_drew1 HB.out)
                                    clear HO_5
                                    clear BK145
                                    clear BK158
                                    clear HB
                                    have HO_5 := n0_
                                    have BK145 := n1_
                                    have BK158 := n2_
                                    have HB := n3_
                                    clear n0_ n1_ n2_ n3_
                                    have p160 : 0 ≤ (x42_3 : Int) := of_decide_eq_true (by first | (with_reducible assumption) | assumption)
                                    have q160 : x42_3 < (t154.length : Int) := of_decide_eq_true (by first | (with_reducible assumption) | assumption)
                                    obtain ⟨ad160, e160, hx160_0⟩ := Kd.at_string (Kd.R_reads' HO_5.out).2.2 x42_3 p160 q160
                                    obtain rfl : ad159 = ad160 := (by injection e160)
                                    (try simp only [Go.IntWalk.toNatUp] at hx160_0)
                                    replace p160 := eq_true p160
                                    replace q160 := eq_true q160
                                    refine start_ (n := 13) (S := fun w' => w'.cell? ⟨gb158, 0, none⟩ = some (.string ((rd_T33 l0 x42_3).f0)) ∧ w'.cell? ⟨gb158, 1, none⟩ = some (.int .i64 ((rd_T33 l0 x42_3).f1)) ∧ w'.cell? (ad159.add (x42_3).toNat) = some (.string (rdOf ByteArray.empty t154 x42_3))) (ds := []) #[false, false, false, false, false, false, false, false, false, false, false, false, false] (by kernel_rfl) rfl rfl ⟨(blk_cell BK158.out 0).trans rfl, (blk_cell BK158.out 1).trans rfl, hx160_0⟩ (fun hHeld => ?_); refine with_tabW laws_FnListLines.tab12 laws_FnListLines.bits12 (fun HT_ HW_ => ?_)
                                    generalize w59.drew = w60 at HO_5 BK145 BK158 HB hx160_0 hHeld ⊢
                                    refine pure_ (i := 0) (N := some 56) (v := ?_) (a' := ?_) #[true, false, false, false, false, false, false, false, false, false, false, false, false] rfl rfl (any_of HT_.out (by kernel_rfl)) (fun _ _ _ h => h) (Or.inl ⟨by rfl, ?_⟩) ?_ ?_
                                    rotate_left
                                    · intro w'
                                      go_simp
                                      with_reducible rfl
                                    rotate_left
                                    · simp only [Act.put, List.setIfInBounds_toArray, List.set_cons_zero, List.set_cons_succ, i64_w, i32_w]
                                      rfl
                                    refine pure_ (i := 1) (N := some 57) (v := ?_) (a' := ?_) #[true, true, false, false, false, false, false, false, false, false, false, false, false] rfl rfl (any_of HT_.out (by kernel_rfl)) (fun _ _ _ h => h) (Or.inl ⟨by rfl, ?_⟩) ?_ ?_
                                    rotate_left
                                    · intro w'
                                      go_simp
                                      with_reducible rfl
                                    rotate_left
                                    · simp only [Act.put, List.setIfInBounds_toArray, List.set_cons_zero, List.set_cons_succ, i64_w, i32_w]
                                      rfl
                                    refine pure_ (i := 2) (N := some 58) (v := ?_) (a' := ?_) #[true, true, true, false, false, false, false, false, false, false, false, false, false] rfl rfl (any_of HT_.out (by kernel_rfl)) (fun _ _ _ h => h) (Or.inl ⟨by rfl, ?_⟩) ?_ ?_
                                    rotate_left
                                    · intro w'
                                      go_simp
                                      with_reducible rfl
                                    rotate_left
                                    · simp only [Act.put, List.setIfInBounds_toArray, List.set_cons_zero, List.set_cons_succ, i64_w, i32_w]
                                      rfl
                                    refine pure_ (i := 3) (N := some 59) (v := ?_) (a' := ?_) #[true, true, true, true, false, false, false, false, false, false, false, false, false] rfl rfl (any_of HT_.out (by kernel_rfl)) (fun _ _ _ h => h) (Or.inl ⟨by rfl, ?_⟩) ?_ ?_
                                    rotate_left
                                    · intro w'
                                      go_simp
                                      with_reducible rfl
                                    rotate_left
                                    · simp only [Act.put, List.setIfInBounds_toArray, List.set_cons_zero, List.set_cons_succ, i64_w, i32_w]
                                      rfl
                                    refine pure_ (i := 4) (N := some 60) (v := ?_) (a' := ?_) #[true, true, true, true, true, false, false, false, false, false, false, false, false] rfl rfl (any_of HT_.out (by kernel_rfl)) (fun _ _ _ h => h) (Or.inl ⟨by rfl, ?_⟩) ?_ ?_
                                    rotate_left
                                    · intro w'
                                      go_simp
                                      with_reducible rfl
                                    rotate_left
                                    · simp only [Act.put, List.setIfInBounds_toArray, List.set_cons_zero, List.set_cons_succ, i64_w, i32_w]
                                      rfl
                                    refine pure_ (i := 5) (N := some 61) (v := ?_) (a' := ?_) #[true, true, true, true, true, true, false, false, false, false, false, false, false] rfl rfl (any_of HT_.out (by kernel_rfl)) (fun _ _ _ h => h) (Or.inl ⟨by rfl, ?_⟩) ?_ ?_
                                    rotate_left
                                    · intro w'
                                      go_simp
                                      with_reducible rfl
                                    rotate_left
                                    · simp only [Act.put, List.setIfInBounds_toArray, List.set_cons_zero, List.set_cons_succ, i64_w, i32_w]
                                      rfl
                                    refine pure_ (i := 7) (N := some 63) (v := ?_) (a' := ?_) #[true, true, true, true, true, true, false, true, false, false, false, false, false] rfl rfl (any_of HT_.out (by kernel_rfl)) (fun _ _ _ h => h) (Or.inl ⟨by rfl, ?_⟩) ?_ ?_
                                    rotate_left
                                    · intro w'
                                      go_simp
                                      with_reducible rfl
                                    rotate_left
                                    · simp only [Act.put, List.setIfInBounds_toArray, List.set_cons_zero, List.set_cons_succ, i64_w, i32_w]
                                      rfl
                                    refine pure_ (i := 9) (N := some 65) (v := ?_) (a' := ?_) #[true, true, true, true, true, true, false, true, false, true, false, false, false] rfl rfl (any_of HT_.out (by kernel_rfl)) (fun _ _ _ h => h) (Or.inl ⟨by rfl, ?_⟩) ?_ ?_
                                    rotate_left
                                    · intro w'
                                      go_simp
                                      with_reducible rfl
                                    rotate_left
                                    · simp only [Act.put, List.setIfInBounds_toArray, List.set_cons_zero, List.set_cons_succ, i64_w, i32_w]
                                      rfl
                                    refine take_ (i := 6) (N := some 62) (v := ?_) (a' := ?_) #[true, true, true, true, true, true, true, true, false, true, false, false, false] rfl rfl (take_ofW HT_.out HW_.out (by kernel_rfl)) (fun _ _ _ h => h) (Or.inl ⟨by rfl, ?_⟩) hHeld ?_ ?_
                                    rotate_left
                                    · rintro w' ⟨s0, s1, s2⟩
                                      go_simp
                                      with_reducible rfl
                                    rotate_left
                                    · simp only [Act.put, List.setIfInBounds_toArray, List.set_cons_zero, List.set_cons_succ, i64_w, i32_w]
                                      rfl
                                    refine pure_ (i := 8) (N := some 64) (v := ?_) (a' := ?_) #[true, true, true, true, true, true, true, true, true, true, false, false, false] rfl rfl (any_of HT_.out (by kernel_rfl)) (fun _ _ _ h => h) (Or.inl ⟨by rfl, ?_⟩) ?_ ?_
                                    rotate_left
                                    · intro w'
                                      go_simp
                                      with_reducible rfl
                                    rotate_left
                                    · simp only [Act.put, List.setIfInBounds_toArray, List.set_cons_zero, List.set_cons_succ, i64_w, i32_w]
                                      rfl
                                    refine take_ (i := 10) (N := some 66) (v := ?_) (a' := ?_) #[true, true, true, true, true, true, true, true, true, true, true, false, false] rfl rfl (take_ofW HT_.out HW_.out (by kernel_rfl)) (fun _ _ _ h => h) (Or.inl ⟨by rfl, ?_⟩) hHeld ?_ ?_
                                    rotate_left
                                    · rintro w' ⟨s0, s1, s2⟩
                                      go_simp
                                      with_reducible rfl
                                    rotate_left
                                    · simp only [Act.put, List.setIfInBounds_toArray, List.set_cons_zero, List.set_cons_succ, i64_w, i32_w]
                                      rfl
                                    refine pure_ (i := 11) (N := some 67) (v := ?_) (a' := ?_) #[true, true, true, true, true, true, true, true, true, true, true, true, false] rfl rfl (any_of HT_.out (by kernel_rfl)) (fun _ _ _ h => h) (Or.inl ⟨by rfl, ?_⟩) ?_ ?_
                                    rotate_left
                                    · intro w'
                                      go_simp
                                      with_reducible rfl
                                    rotate_left
                                    · simp only [Act.put, List.setIfInBounds_toArray, List.set_cons_zero, List.set_cons_succ, i64_w, i32_w]
                                      rfl
                                    refine pure_ (i := 12) (N := some 68) (v := ?_) (a' := ?_) #[true, true, true, true, true, true, true, true, true, true, true, true, true] rfl rfl (any_of HT_.out (by kernel_rfl)) (fun _ _ _ h => h) (Or.inl ⟨by rfl, ?_⟩) ?_ ?_
                                    rotate_left
                                    · intro w'
                                      go_simp
                                      with_reducible rfl
                                    rotate_left
                                    · simp only [Act.put, List.setIfInBounds_toArray, List.set_cons_zero, List.set_cons_succ, i64_w, i32_w]
                                      rfl
                                    refine done_ (done_of HT_.out (by kernel_rfl)) ?_
                                    try go_wp2
                                    go_ret
                                    exact ⟨by first | rfl | (simp [errW_none, errW_some] <;> rfl) | (simp only [← hji45]; first | rfl | (simp [errW_none, errW_some] <;> rfl)) | (simp [*, errW_none, errW_some] <;> rfl), by repeat (first | (with_reducible first | exact HB.out | apply below_alloc | apply pw_below_drewN | apply below_drew1 | refine below_set ?_ GE145.out | refine below_set ?_ GE158.out) | exact HB.out)⟩
                                · rw [if_neg c47] at H
                                  exact absurd H (by simp)
                              · rw [if_neg c46] at H
                                exact absurd H (by simp)
                          · rw [if_neg c37] at H
                            exact absurd H (by simp)
                        · rw [if_neg c36] at H
                          exact absurd H (by simp)
                      · rw [if_neg c35] at H
                        exact absurd H (by simp)
                    · rw [if_neg c34] at H
                      have c34b0 : decide (x42_3 < (l0.length : Int)) = false := decide_eq_false c34
                      clear c34
                      obtain rfl := Option.some.inj H
                      go_wp2
                      go_ret
                      exact ⟨by first | rfl | (simp [errW_none, errW_some] <;> rfl) | (simp [*, errW_none, errW_some] <;> rfl), by repeat (first | (with_reducible first | exact HB.out | apply below_alloc | apply pw_below_drewN | apply below_drew1 | refine below_set ?_ GE145.out) | exact HB.out)⟩
              · rw [if_neg c27] at H
                have c27b0 : ((t154.length : Int) == (l0.length : Int)) = false := beq_eq_false_iff_ne.mpr c27
                have c27b1 : ((t154.length : Int) != (l0.length : Int)) = true := bne_iff_ne.mpr c27
                have c27b2 : (t154.length == l0.length) = false := by first | simpa using c27 | (simp at c27 ⊢; omega)
                obtain rfl := Option.some.inj H
                try go_wp2
                have n0_ := Aside0.mk (blk_drew BK145.out)
                have n1_ := Aside0.mk (below_drew1 HB.out)
                clear BK145
                clear HB
                have BK145 := n0_
                have HB := n1_
                clear n0_ n1_
                refine start_ (n := 6) (S := fun w' => w'.cell? ⟨gb145, 0, none⟩ = some (.int .i64 a1_0) ∧ w'.cell? ⟨gb145, 1, none⟩ = some (.string a1_1) ∧ w'.cell? ⟨gb145, 2, none⟩ = some (.string a1_2) ∧ w'.cell? ⟨gb145, 3, none⟩ = some (.string a1_3) ∧ w'.cell? ⟨gb145, 4, none⟩ = some (.string a1_4) ∧ w'.cell? ⟨gb145, 5, none⟩ = some (.string a1_5) ∧ w'.cell? ⟨gb145, 6, none⟩ = some (.string a1_6) ∧ w'.cell? ⟨gb145, 7, none⟩ = some (.string a1_7) ∧ w'.cell? ⟨gb145, 8, none⟩ = some (.string a1_8)) (ds := []) #[false, false, false, false, false, false] (by kernel_rfl) rfl rfl ⟨(blk_cell BK145.out 0).trans rfl, (blk_cell BK145.out 1).trans rfl, (blk_cell BK145.out 2).trans rfl, (blk_cell BK145.out 3).trans rfl, (blk_cell BK145.out 4).trans rfl, (blk_cell BK145.out 5).trans rfl, (blk_cell BK145.out 6).trans rfl, (blk_cell BK145.out 7).trans rfl, (blk_cell BK145.out 8).trans rfl⟩ (fun hHeld => ?_)
                generalize wc.drew = w61 at BK145 HB hHeld ⊢
                refine pure_ (i := 0) (N := some 30) (v := ?_) (a' := ?_) #[true, false, false, false, false, false] rfl rfl (by kernel_rfl) (fun _ _ _ h => h) (Or.inl ⟨by rfl, ?_⟩) ?_ ?_
                rotate_left
                · intro w'
                  go_simp
                  with_reducible rfl
                rotate_left
                · simp only [Act.put, List.setIfInBounds_toArray, List.set_cons_zero, List.set_cons_succ, i64_w, i32_w]
                  rfl
                refine take_ (i := 2) (N := some 32) (v := ?_) (a' := ?_) #[true, false, true, false, false, false] rfl rfl (by kernel_rfl) (fun _ _ _ h => h) (Or.inl ⟨by rfl, ?_⟩) hHeld ?_ ?_
                rotate_left
                · rintro w' ⟨s0, s1, s2, s3, s4, s5, s6, s7, s8⟩
                  go_simp
                  with_reducible rfl
                rotate_left
                · simp only [Act.put, List.setIfInBounds_toArray, List.set_cons_zero, List.set_cons_succ, i64_w, i32_w]
                  rfl
                refine one_ (i := 1) (N := some 31) #[true, true, true, false, false, false] rfl rfl (by kernel_rfl) (by decide) (fun K hK => ?_)
                refine goes_ Tryd.func12 (by kernel_rfl) rfl #[.slice A0 l0.length c0] (by rfl) rfl rfl (by (try simp only [List.map_toArray, List.map_cons, List.map_nil]); first | done | rfl | (simp only [List.length_drop, List.length_take]; rfl)) ?_
                with_reducible refine (spec_LsSteps.calls kj12 _ _ l0 t150 _ ?side1 ?side2 A24.out).mono ?_
                (case side1 => repeat (first | exact (Kd.C_below HR0.out HB.out) | (with_reducible refine Kd.C_alloc ?_ _) | (with_reducible refine Kd.C_drewN ?_ _) | (with_reducible refine Kd.C_drew ?_)))
                (case side2 => exact HC0.out)
                rintro e w62 ⟨v151, rfl, ho0, hb⟩
                refine ⟨_, rfl, ?_⟩
                have n0_ := Aside0.mk (Kd.S_lower ho0 (below_size (by repeat (first | (with_reducible first | exact HB.out | apply below_alloc | apply pw_below_drewN | apply below_drew1 | refine below_set ?_ GE145.out) | exact HB.out))))
                have n1_ := Aside0.mk (blk_below (g := gb145) (o := .cells #[.int .i64 a1_0, .string a1_1, .string a1_2, .string a1_3, .string a1_4, .string a1_5, .string a1_6, .string a1_7, .string a1_8] 24 (0, 0)) (by (with_reducible repeat (first | refine blk_drewN ?_ _ | refine blk_drew ?_ | refine blk_alloc ?_ _)); exact BK145.out) hb)
                have n2_ := Aside0.mk (below_step (by repeat (first | (with_reducible first | exact HB.out | apply below_alloc | apply pw_below_drewN | apply below_drew1 | refine below_set ?_ GE145.out) | exact HB.out)) hb)
                clear BK145
                clear HB
                have HO152 := n0_
                have BK145 := n1_
                have HB := n2_
                clear n0_ n1_ n2_
                (try clear hb)
                (try clear hb2)
                (try clear hk)
                (try clear hi)
                (try clear ho0)
                obtain ⟨Ao63, co63, eo63⟩ := Kd.S_slice HO152.out
                (first | subst eo63 | (injection eo63 with f1_ f2_ f3_; have f4_ := f1_.symm; have f5_ := f3_.symm; clear f1_ f2_ f3_; subst f4_; subst f5_))
                refine hK.out _ _ ⟨(blk_cell BK145.out 0).trans rfl, (blk_cell BK145.out 1).trans rfl, (blk_cell BK145.out 2).trans rfl, (blk_cell BK145.out 3).trans rfl, (blk_cell BK145.out 4).trans rfl, (blk_cell BK145.out 5).trans rfl, (blk_cell BK145.out 6).trans rfl, (blk_cell BK145.out 7).trans rfl, (blk_cell BK145.out 8).trans rfl⟩ (fun hHeld => ?_)
                clear hK K
                refine norm_ (a' := ?_) ?_ ?_
                rotate_left
                · show Act.put _ (some 31) _ = _
                  simp only [Act.put, List.setIfInBounds_toArray, List.set_cons_zero, List.set_cons_succ, i64_w, i32_w]
                  rfl
                refine one_ (i := 3) (N := some 33) #[true, true, true, true, false, false] rfl rfl (by kernel_rfl) (by decide) (fun K hK => ?_)
                refine goes_ Tryd.func11 (by kernel_rfl) rfl #[.slice Ao63 t150.length co63, .agg #[.int .i64 a1_0, .string a1_1, .string a1_2, .string a1_3, .string a1_4, .string a1_5, .string a1_6, .string a1_7, .string a1_8]] (by rfl) rfl rfl (by (try simp only [List.map_toArray, List.map_cons, List.map_nil]); first | done | rfl | (simp only [List.length_drop, List.length_take]; rfl)) ?_
                with_reducible refine (impl_ListRender.calls _ _ t150 a1_0 a1_1 a1_2 a1_3 a1_4 a1_5 a1_6 a1_7 a1_8 t153 _ ?side1 ?side2 A25.out).mono ?_
                (case side1 => repeat (first | exact (Kd.S_reads' HO152.out).2.2 | (with_reducible refine Kd.C_alloc ?_ _) | (with_reducible refine Kd.C_drewN ?_ _) | (with_reducible refine Kd.C_drew ?_)))
                (case side2 => exact (Kd.S_reads' HO152.out).2.1)
                rintro e w64 ⟨rfl, hb⟩
                refine ⟨_, rfl, ?_⟩
                have n0_ := Aside0.mk (Kd.S_below (by (with_reducible repeat (first | apply Kd.S_alloc | apply Kd.S_drewN | apply Kd.S_drew)); exact HO152.out) hb)
                have n1_ := Aside0.mk (blk_below (g := gb145) (o := .cells #[.int .i64 a1_0, .string a1_1, .string a1_2, .string a1_3, .string a1_4, .string a1_5, .string a1_6, .string a1_7, .string a1_8] 24 (0, 0)) (by (with_reducible repeat (first | refine blk_drewN ?_ _ | refine blk_drew ?_ | refine blk_alloc ?_ _)); exact BK145.out) hb)
                have n2_ := Aside0.mk (below_step (by repeat (first | (with_reducible first | exact HB.out | apply below_alloc | apply pw_below_drewN | apply below_drew1 | refine below_set ?_ GE145.out) | exact HB.out)) hb)
                clear HO152
                clear BK145
                clear HB
                have HO152 := n0_
                have BK145 := n1_
                have HB := n2_
                clear n0_ n1_ n2_
                (try clear hb)
                (try clear hb2)
                (try clear hk)
                (try clear hi)
                refine hK.out _ _ ⟨(blk_cell BK145.out 0).trans rfl, (blk_cell BK145.out 1).trans rfl, (blk_cell BK145.out 2).trans rfl, (blk_cell BK145.out 3).trans rfl, (blk_cell BK145.out 4).trans rfl, (blk_cell BK145.out 5).trans rfl, (blk_cell BK145.out 6).trans rfl, (blk_cell BK145.out 7).trans rfl, (blk_cell BK145.out 8).trans rfl⟩ (fun hHeld => ?_)
                clear hK K
                refine norm_ (a' := ?_) ?_ ?_
                rotate_left
                · show Act.put _ (some 33) _ = _
                  simp only [Act.put, List.setIfInBounds_toArray, List.set_cons_zero, List.set_cons_succ, i64_w, i32_w]
                  rfl
                refine one_ (i := 4) (N := some 34) #[true, true, true, true, true, false] rfl rfl (by kernel_rfl) (by decide) (fun K hK => ?_)
                refine goes_ Tryd.func10 (by kernel_rfl) rfl #[.string t153] (by rfl) rfl rfl (by (try simp only [List.map_toArray, List.map_cons, List.map_nil]); first | done | rfl | (simp only [List.length_drop, List.length_take]; rfl)) ?_
                with_reducible refine (spec_TxLines.calls kj12 t153 t154 _ A26.out).mono ?_
                rintro e w65 ⟨v155, rfl, ho0, hb⟩
                refine ⟨_, rfl, ?_⟩
                have n0_ := Aside0.mk (Kd.S_elder' (by (with_reducible repeat (first | apply Kd.S_alloc | apply Kd.S_drewN | apply Kd.S_drew)); exact HO152.out) (Kd.R_base ho0) hb)
                have n1_ := Aside0.mk (Kd.R_lower ho0 (below_size (by repeat (first | (with_reducible first | exact HB.out | apply below_alloc | apply pw_below_drewN | apply below_drew1 | refine below_set ?_ GE145.out) | exact HB.out))))
                have n2_ := Aside0.mk (blk_below (g := gb145) (o := .cells #[.int .i64 a1_0, .string a1_1, .string a1_2, .string a1_3, .string a1_4, .string a1_5, .string a1_6, .string a1_7, .string a1_8] 24 (0, 0)) (by (with_reducible repeat (first | refine blk_drewN ?_ _ | refine blk_drew ?_ | refine blk_alloc ?_ _)); exact BK145.out) hb)
                have n3_ := Aside0.mk (below_step (by repeat (first | (with_reducible first | exact HB.out | apply below_alloc | apply pw_below_drewN | apply below_drew1 | refine below_set ?_ GE145.out) | exact HB.out)) hb)
                clear HO152
                clear BK145
                clear HB
                have HO152 := n0_
                have HO156 := n1_
                have BK145 := n2_
                have HB := n3_
                clear n0_ n1_ n2_ n3_
                (try clear hb)
                (try clear hb2)
                (try clear hk)
                (try clear hi)
                (try clear ho0)
                refine hK.out _ _ ⟨(blk_cell BK145.out 0).trans rfl, (blk_cell BK145.out 1).trans rfl, (blk_cell BK145.out 2).trans rfl, (blk_cell BK145.out 3).trans rfl, (blk_cell BK145.out 4).trans rfl, (blk_cell BK145.out 5).trans rfl, (blk_cell BK145.out 6).trans rfl, (blk_cell BK145.out 7).trans rfl, (blk_cell BK145.out 8).trans rfl⟩ (fun hHeld => ?_)
                clear hK K
                refine norm_ (a' := ?_) ?_ ?_
                rotate_left
                · show Act.put _ (some 34) _ = _
                  simp only [Act.put, List.setIfInBounds_toArray, List.set_cons_zero, List.set_cons_succ, i64_w, i32_w]
                  rfl
                refine pure_ (i := 5) (N := some 5) (v := ?_) (a' := ?_) #[true, true, true, true, true, true] rfl rfl (by kernel_rfl) (fun _ _ _ h => h) (Or.inl ⟨by rfl, ?_⟩) ?_ ?_
                rotate_left
                · intro w'
                  go_simp
                  with_reducible rfl
                rotate_left
                · simp only [Act.put, List.setIfInBounds_toArray, List.set_cons_zero, List.set_cons_succ, i64_w, i32_w]
                  rfl
                refine done_ (by kernel_rfl) ?_
                obtain ⟨Ao66, co66, eo66⟩ := Kd.R_slice HO156.out
                subst eo66
                try go_wp2
                go_ret
                exact ⟨by first | rfl | (simp [errW_none, errW_some] <;> rfl) | (simp [*, errW_none, errW_some] <;> rfl), by repeat (first | (with_reducible first | exact HB.out | apply below_alloc | apply pw_below_drewN | apply below_drew1 | refine below_set ?_ GE145.out) | exact HB.out)⟩

def laws_FnListLines.Pure : Prop := ∀ (l0 : List (S33)) (a1_0 : Int) (a1_1 : ByteArray) (a1_2 : ByteArray) (a1_3 : ByteArray) (a1_4 : ByteArray) (a1_5 : ByteArray) (a1_6 : ByteArray) (a1_7 : ByteArray) (a1_8 : ByteArray), (l0.length * 24 ≤ 140737488351232 ∧ l0.length ≤ maxLen ∧ ∀ yl0 ∈ l0, (yl0.f0.size ≤ 140737488351232 ∧ ((Lit.int .i64 yl0.f1).wf = true))) → (Lit.int .i64 a1_0).wf = true → a1_1.size ≤ 140737488351232 → a1_2.size ≤ 140737488351232 → a1_3.size ≤ 140737488351232 → a1_4.size ≤ 140737488351232 → a1_5.size ≤ 140737488351232 → a1_6.size ≤ 140737488351232 → a1_7.size ≤ 140737488351232 → a1_8.size ≤ 140737488351232 → ∃ k, laws_FnListLines.f k l0 a1_0 a1_1 a1_2 a1_3 a1_4 a1_5 a1_6 a1_7 a1_8 = some true

end Go.Proofs.YtmakcmggicedfaaDoor.PFnListLines
