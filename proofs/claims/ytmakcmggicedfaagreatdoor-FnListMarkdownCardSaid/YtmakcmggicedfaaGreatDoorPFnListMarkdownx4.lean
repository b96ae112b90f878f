-- Written by hprint.py, a program of this session
import Derived.Test.YtmakcmggicedfaaGreatDoorPFnListMarkdownx0
import Derived.Test.YtmakcmggicedfaaGreatDoorPFnListMarkdownx1
import Derived.Test.YtmakcmggicedfaaGreatDoorPFnListMarkdownx2
import Derived.Test.YtmakcmggicedfaaGreatDoorPFnListMarkdownx3
namespace Go.Proofs.YtmakcmggicedfaaGreatDoor.PFnListMarkdown
open Go.RowKit Go.Proofs.YtmakcmggicedfaaGreatDoor.Hand Go.Proofs.YtmakcmggicedfaaGreatDoorW.PrintWords Go.Proofs.YtmakcmggicedfaaGreatDoorW.PrintLast Go.Proofs.YtmakcmggicedfaaGreatDoorW.PrintMore
attribute [local go_sem] max2_int min2_int max_two min_two max_three min_three max_four min_four   -- for this text's walks alone
set_option linter.unusedVariables false
set_option linter.unusedSimpArgs false

/-! ### laws_FnListMarkdown: function 3 -/
mutual
def laws_FnListMarkdown.j0 : Nat → List (S34) → Bool → Int → ByteArray → ByteArray → ByteArray → ByteArray → ByteArray → ByteArray → ByteArray → ByteArray → Option (Bool)
  | 0, _, _, _, _, _, _, _, _, _, _, _ => none
  | k + 1, x0, x12, x141000, x141001, x141002, x141003, x141004, x141005, x141006, x141007, x141008 => if x12 = true then (some true) else ((spec_LsRight.f k x0).bind fun t143 => (if t143 = true then ((spec_LsStyled.f k x141000 x141001 x141002 x141003 x141004 x141005 x141006 x141007 x141008).bind fun t144 => (laws_FnListMarkdown.j1 k x0 (!t144) x141000 x141001 x141002 x141003 x141004 x141005 x141006 x141007 x141008)) else (laws_FnListMarkdown.j1 k x0 true x141000 x141001 x141002 x141003 x141004 x141005 x141006 x141007 x141008)))
def laws_FnListMarkdown.j1 : Nat → List (S34) → Bool → Int → ByteArray → ByteArray → ByteArray → ByteArray → ByteArray → ByteArray → ByteArray → ByteArray → Option (Bool)
  | 0, _, _, _, _, _, _, _, _, _, _, _ => none
  | k + 1, x0, x20, x141000, x141001, x141002, x141003, x141004, x141005, x141006, x141007, x141008 => if x20 = true then (some true) else ((spec_LsSteps.f k x0).bind fun t145 => ((impl_ListMarkdown.f t145 x141000 x141001 x141002 x141003 x141004 x141005 x141006 x141007 x141008).bind fun t148 => ((spec_LsSteps.f k x0).bind fun t149 => ((impl_ListNamed.f 10).bind fun bt152 => ((impl_ListRender.f t149 bt152.1 bt152.2.1 bt152.2.2.1 bt152.2.2.2.1 bt152.2.2.2.2.1 bt152.2.2.2.2.2.1 bt152.2.2.2.2.2.2.1 bt152.2.2.2.2.2.2.2.1 bt152.2.2.2.2.2.2.2.2).bind fun t161 => (if t148.toList = t161.toList then ((laws_lsAlive.f).bind fun t162 => (some t162)) else (some false)))))))
end
def laws_FnListMarkdown.f (k : Nat) (l0 : List (S34)) (a1_0 : Int) (a1_1 : ByteArray) (a1_2 : ByteArray) (a1_3 : ByteArray) (a1_4 : ByteArray) (a1_5 : ByteArray) (a1_6 : ByteArray) (a1_7 : ByteArray) (a1_8 : ByteArray) : Option (Bool) := (laws_zzFits1.f k l0).bind fun t141 => (if t141 = true then ((laws_zzFits3.f a1_0 a1_1 a1_2 a1_3 a1_4 a1_5 a1_6 a1_7 a1_8).bind fun t142 => (laws_FnListMarkdown.j0 k l0 (!t142) a1_0 a1_1 a1_2 a1_3 a1_4 a1_5 a1_6 a1_7 a1_8)) else (laws_FnListMarkdown.j0 k l0 true a1_0 a1_1 a1_2 a1_3 a1_4 a1_5 a1_6 a1_7 a1_8))
theorem laws_FnListMarkdown.mono_l : ∀ k, (∀ y0 y1 y2 y3 y4 y5 y6 y7 y8 y9 y10, LeO (laws_FnListMarkdown.j0 k y0 y1 y2 y3 y4 y5 y6 y7 y8 y9 y10) (laws_FnListMarkdown.j0 (k + 1) y0 y1 y2 y3 y4 y5 y6 y7 y8 y9 y10)) ∧ (∀ y0 y1 y2 y3 y4 y5 y6 y7 y8 y9 y10, LeO (laws_FnListMarkdown.j1 k y0 y1 y2 y3 y4 y5 y6 y7 y8 y9 y10) (laws_FnListMarkdown.j1 (k + 1) y0 y1 y2 y3 y4 y5 y6 y7 y8 y9 y10))
  | 0 => ⟨fun _ _ _ _ _ _ _ _ _ _ _ r h => by simp [laws_FnListMarkdown.j0] at h, fun _ _ _ _ _ _ _ _ _ _ _ r h => by simp [laws_FnListMarkdown.j1] at h⟩
  | k + 1 => by
    obtain ⟨ih0, ih1⟩ := laws_FnListMarkdown.mono_l k
    refine ⟨?_, ?_⟩
    · intro y0 y1 y2 y3 y4 y5 y6 y7 y8 y9 y10
      unfold laws_FnListMarkdown.j0
      repeat' first
      | (with_reducible exact ih0 _ _ _ _ _ _ _ _ _ _ _)
      | (with_reducible exact ih1 _ _ _ _ _ _ _ _ _ _ _)
      | (with_reducible exact laws_zzFits1.mono _ _)
      | (with_reducible exact spec_LsRight.mono _ _)
      | (with_reducible exact spec_LsSteps.mono _ _)
      | (with_reducible exact spec_LsStyled.mono _ _ _ _ _ _ _ _ _ _)
      | (with_reducible exact LeO.refl _)
      | (with_reducible exact LeO.none _)
      | (with_reducible refine LeO.ite ?_ ?_)
      | (with_reducible refine LeO.bind ?_ (fun _ => ?_))
      | exact ih0 _ _ _ _ _ _ _ _ _ _ _
      | exact ih1 _ _ _ _ _ _ _ _ _ _ _
      | exact laws_zzFits1.mono _ _
      | exact spec_LsRight.mono _ _
      | exact spec_LsSteps.mono _ _
      | exact spec_LsStyled.mono _ _ _ _ _ _ _ _ _ _
      | exact LeO.none _
      | refine LeO.ite ?_ ?_
      | refine LeO.bind ?_ (fun _ => ?_)
    · intro y0 y1 y2 y3 y4 y5 y6 y7 y8 y9 y10
      unfold laws_FnListMarkdown.j1
      repeat' first
      | (with_reducible exact ih0 _ _ _ _ _ _ _ _ _ _ _)
      | (with_reducible exact ih1 _ _ _ _ _ _ _ _ _ _ _)
      | (with_reducible exact laws_zzFits1.mono _ _)
      | (with_reducible exact spec_LsRight.mono _ _)
      | (with_reducible exact spec_LsSteps.mono _ _)
      | (with_reducible exact spec_LsStyled.mono _ _ _ _ _ _ _ _ _ _)
      | (with_reducible exact LeO.refl _)
      | (with_reducible exact LeO.none _)
      | (with_reducible refine LeO.ite ?_ ?_)
      | (with_reducible refine LeO.bind ?_ (fun _ => ?_))
      | exact ih0 _ _ _ _ _ _ _ _ _ _ _
      | exact ih1 _ _ _ _ _ _ _ _ _ _ _
      | exact laws_zzFits1.mono _ _
      | exact spec_LsRight.mono _ _
      | exact spec_LsSteps.mono _ _
      | exact spec_LsStyled.mono _ _ _ _ _ _ _ _ _ _
      | exact LeO.none _
      | refine LeO.ite ?_ ?_
      | refine LeO.bind ?_ (fun _ => ?_)
theorem laws_FnListMarkdown.mono : ∀ a0 a1 a2 a3 a4 a5 a6 a7 a8 a9 k, LeO (laws_FnListMarkdown.f k a0 a1 a2 a3 a4 a5 a6 a7 a8 a9) (laws_FnListMarkdown.f (k + 1) a0 a1 a2 a3 a4 a5 a6 a7 a8 a9) := by
  intro a0 a1 a2 a3 a4 a5 a6 a7 a8 a9 k
  obtain ⟨ih0, ih1⟩ := laws_FnListMarkdown.mono_l k
  unfold laws_FnListMarkdown.f
  repeat' first
      | (with_reducible exact ih0 _ _ _ _ _ _ _ _ _ _ _)
      | (with_reducible exact ih1 _ _ _ _ _ _ _ _ _ _ _)
      | (with_reducible exact laws_zzFits1.mono _ _)
      | (with_reducible exact spec_LsRight.mono _ _)
      | (with_reducible exact spec_LsSteps.mono _ _)
      | (with_reducible exact spec_LsStyled.mono _ _ _ _ _ _ _ _ _ _)
      | (with_reducible exact LeO.refl _)
      | (with_reducible exact LeO.none _)
      | (with_reducible refine LeO.ite ?_ ?_)
      | (with_reducible refine LeO.bind ?_ (fun _ => ?_))
      | exact ih0 _ _ _ _ _ _ _ _ _ _ _
      | exact ih1 _ _ _ _ _ _ _ _ _ _ _
      | exact laws_zzFits1.mono _ _
      | exact spec_LsRight.mono _ _
      | exact spec_LsSteps.mono _ _
      | exact spec_LsStyled.mono _ _ _ _ _ _ _ _ _ _
      | exact LeO.none _
      | refine LeO.ite ?_ ?_
      | refine LeO.bind ?_ (fun _ => ?_)
def laws_FnListMarkdown.T5 : Bool × List (List Nat × List Nat) := (true, [([], []), ([0], [0]), ([], []), ([1, 2, 1], [1, 2]), ([], []), ([4, 3], [4]), ([5], []), ([5, 6, 6], [5, 6]), ([3, 7], [3, 7]), ([8, 7], [8]), ([9, 9], [9]), ([9, 10], [9, 10]), ([11, 10, 0, 1, 2, 3, 4, 5, 6, 7, 8, 9, 10, 11], [11])])
def laws_FnListMarkdown.B5 : List Nat := [0, 1, 0, 7, 0, 31, 63, 127, 255, 511, 1023, 2047, 4095]
theorem laws_FnListMarkdown.tab5 : rtab .any (opsOf Tryz.f3 5) = laws_FnListMarkdown.T5 := by kernel_rfl
theorem laws_FnListMarkdown.bits5 : waitsOk laws_FnListMarkdown.T5.2 laws_FnListMarkdown.B5 = true := by kernel_rfl
set_option maxHeartbeats 8000000 in
set_option maxRecDepth 100000 in
theorem laws_FnListMarkdown.calls (k : Nat) (A0 : Option Addr) (c0 : Nat) (l0 : List (S34)) (a1_0 : Int) (a1_1 : ByteArray) (a1_2 : ByteArray) (a1_3 : ByteArray) (a1_4 : ByteArray) (a1_5 : ByteArray) (a1_6 : ByteArray) (a1_7 : ByteArray) (a1_8 : ByteArray) (r : Bool) (w : World) (hr0 : Kd.C k34 w A0 l0.length l0) (hc0 : l0.length ≤ c0) (h : laws_FnListMarkdown.f k l0 a1_0 a1_1 a1_2 a1_3 a1_4 a1_5 a1_6 a1_7 a1_8 = some r) :
    Calls Tryz.prog 3 #[.slice A0 l0.length c0, .agg #[.int .i64 a1_0, .string a1_1, .string a1_2, .string a1_3, .string a1_4, .string a1_5, .string a1_6, .string a1_7, .string a1_8]] w fun e w' => e = .returned (.bool r) ∧ Below w.heap.size w w' := by
  have hu24 := Tryz.underlying24
  have HR0 := Aside0.mk hr0
  have HC0 := Aside0.mk hc0
  clear hr0 hc0
  have HB := Aside0.mk (Below.refl w.heap.size w)
  have H : ((laws_zzFits1.f k l0).bind fun t141 => (if t141 = true then ((laws_zzFits3.f a1_0 a1_1 a1_2 a1_3 a1_4 a1_5 a1_6 a1_7 a1_8).bind fun t142 => (laws_FnListMarkdown.j0 k l0 (!t142) a1_0 a1_1 a1_2 a1_3 a1_4 a1_5 a1_6 a1_7 a1_8)) else (laws_FnListMarkdown.j0 k l0 true a1_0 a1_1 a1_2 a1_3 a1_4 a1_5 a1_6 a1_7 a1_8))) = some r := h
  clear h
  have HC3 := Aside0.mk H
  clear H
  go_enter Tryz.func3, Tryz.ntmps3
  go_upto_region 1 with (first | ((with_reducible refine gate_dst (N := 3) rfl ?_); refine box_event ?hg (N := 3) ?hd (cs := #[.int .i64 a1_0, .string a1_1, .string a1_2, .string a1_3, .string a1_4, .string a1_5, .string a1_6, .string a1_7, .string a1_8]) (t := 24) ?hr ?_; (case hd => rfl); (case hg => rfl); (case hr => first | (go_simp; done) | (go_simp; rfl)); intro gb140 hg w4 hbox hb; have n0_ := Aside0.mk (below_step (by repeat (first | (with_reducible first | exact HB.out | apply below_alloc | apply pw_below_drewN | apply below_drew1) | exact HB.out)) hb); have n1_ := Aside0.mk (hbox); have n2_ := Aside0.mk ((by rw [hg]; exact (below_size (by repeat (first | (with_reducible first | exact HB.out | apply below_alloc | apply pw_below_drewN | apply below_drew1) | exact HB.out))) : w.heap.size ≤ gb140)); have n3_ := Aside0.mk ((by rw [hg]; exact (below_size (by repeat (first | (with_reducible first | exact HB.out | apply below_alloc | apply pw_below_drewN | apply below_drew1) | exact HB.out))) : w.heap.size ≤ gb140)); clear HB; have HB := n0_; have BK140 := n1_; have GW140 := n2_; have GE140 := n3_; clear n0_ n1_ n2_ n3_; clear hb hbox hg))
  (try simp only [Act.put, List.setIfInBounds_toArray, List.set_cons_zero, List.set_cons_succ])
  go_cut [12] (fun v12 wc => ∃ (kq : Nat) (x12_2 : Bool), v12 = .bool x12_2 ∧ Aside0 (laws_FnListMarkdown.j0 kq l0 x12_2 a1_0 a1_1 a1_2 a1_3 a1_4 a1_5 a1_6 a1_7 a1_8 = some r) ∧ Aside0 (kq ≤ k) ∧ Aside0 (wc.heap[gb140]? = some (.cells #[.int .i64 a1_0, .string a1_1, .string a1_2, .string a1_3, .string a1_4, .string a1_5, .string a1_6, .string a1_7, .string a1_8] 24 (0, 0))) ∧ Aside0 (Below w.heap.size w wc))
  case first =>
    have H := HC3.out
    clear HC3
    replace H := Option.bind_eq_some_iff.mp H
    obtain ⟨t141, A50, H⟩ := H
    replace H : (if t141 = true then ((laws_zzFits3.f a1_0 a1_1 a1_2 a1_3 a1_4 a1_5 a1_6 a1_7 a1_8).bind fun t142 => (laws_FnListMarkdown.j0 k l0 (!t142) a1_0 a1_1 a1_2 a1_3 a1_4 a1_5 a1_6 a1_7 a1_8)) else (laws_FnListMarkdown.j0 k l0 true a1_0 a1_1 a1_2 a1_3 a1_4 a1_5 a1_6 a1_7 a1_8)) = some r := H
    have A5 := Aside0.mk A50
    clear A50
    by_cases c6 : t141 = true
    · subst c6
      have H1 : ((laws_zzFits3.f a1_0 a1_1 a1_2 a1_3 a1_4 a1_5 a1_6 a1_7 a1_8).bind fun t142 => (laws_FnListMarkdown.j0 k l0 (!t142) a1_0 a1_1 a1_2 a1_3 a1_4 a1_5 a1_6 a1_7 a1_8)) = some r := by rw [if_pos rfl] at H; exact H
      clear H
      have H := H1
      clear H1
      replace H := Option.bind_eq_some_iff.mp H
      obtain ⟨t142, A70, H⟩ := H
      replace H : (laws_FnListMarkdown.j0 k l0 (!t142) a1_0 a1_1 a1_2 a1_3 a1_4 a1_5 a1_6 a1_7 a1_8) = some r := H
      have A7 := Aside0.mk A70
      clear A70
      have H' := Aside0.mk H
      clear H
      go_wp2_with (first | ((with_reducible refine gate_callee (f := 4) rfl ?_); refine goesL_ (some 6) rfl rfl Tryz.func4 (by kernel_rfl) rfl #[.slice A0 l0.length c0] rfl (by (try simp only [List.map_toArray, List.map_cons, List.map_nil]); first | done | rfl | (simp only [List.length_drop, List.length_take]; rfl)) ?_; (with_reducible refine (laws_zzFits1.calls k _ _ l0 true _ ?side1 ?side2 A5.out).mono ?_); (case side1 => repeat (first | exact (Kd.C_below HR0.out HB.out) | (with_reducible refine Kd.C_alloc ?_ _) | (with_reducible refine Kd.C_drewN ?_ _) | (with_reducible refine Kd.C_drew ?_))); (case side2 => exact HC0.out); rintro e w8 ⟨rfl, hb⟩; refine ⟨_, rfl, ?_⟩; have n0_ := Aside0.mk (blk_below (g := gb140) (o := .cells #[.int .i64 a1_0, .string a1_1, .string a1_2, .string a1_3, .string a1_4, .string a1_5, .string a1_6, .string a1_7, .string a1_8] 24 (0, 0)) (by (with_reducible repeat (first | refine blk_drewN ?_ _ | refine blk_drew ?_ | refine blk_alloc ?_ _)); exact BK140.out) hb); have n1_ := Aside0.mk (below_step (by repeat (first | (with_reducible first | exact HB.out | apply below_alloc | apply pw_below_drewN | apply below_drew1 | refine below_set ?_ GE140.out) | exact HB.out)) hb); clear BK140; clear HB; have BK140 := n0_; have HB := n1_; clear n0_ n1_; (try clear hb); (try clear hb2); (try clear hk); (try clear hi); have hcz9_0 : w8.cell? ⟨gb140, 0, none⟩ = some (.int .i64 a1_0) := (blk_cell BK140.out 0).trans rfl; have hcz9_1 : w8.cell? ⟨gb140, 1, none⟩ = some (.string a1_1) := (blk_cell BK140.out 1).trans rfl; have hcz9_2 : w8.cell? ⟨gb140, 2, none⟩ = some (.string a1_2) := (blk_cell BK140.out 2).trans rfl; have hcz9_3 : w8.cell? ⟨gb140, 3, none⟩ = some (.string a1_3) := (blk_cell BK140.out 3).trans rfl; have hcz9_4 : w8.cell? ⟨gb140, 4, none⟩ = some (.string a1_4) := (blk_cell BK140.out 4).trans rfl; have hcz9_5 : w8.cell? ⟨gb140, 5, none⟩ = some (.string a1_5) := (blk_cell BK140.out 5).trans rfl; have hcz9_6 : w8.cell? ⟨gb140, 6, none⟩ = some (.string a1_6) := (blk_cell BK140.out 6).trans rfl; have hcz9_7 : w8.cell? ⟨gb140, 7, none⟩ = some (.string a1_7) := (blk_cell BK140.out 7).trans rfl; have hcz9_8 : w8.cell? ⟨gb140, 8, none⟩ = some (.string a1_8) := (blk_cell BK140.out 8).trans rfl; have hfz9_0 := blk_frozen BK140.out 0; have hfz9_1 := blk_frozen BK140.out 1; have hfz9_2 := blk_frozen BK140.out 2; have hfz9_3 := blk_frozen BK140.out 3; have hfz9_4 := blk_frozen BK140.out 4; have hfz9_5 := blk_frozen BK140.out 5; have hfz9_6 := blk_frozen BK140.out 6; have hfz9_7 := blk_frozen BK140.out 7; have hfz9_8 := blk_frozen BK140.out 8) | (go_at_call 5; (with_reducible refine (laws_zzFits3.calls a1_0 a1_1 a1_2 a1_3 a1_4 a1_5 a1_6 a1_7 a1_8 t142 _ A7.out).mono ?_); rintro e w10 ⟨rfl, hb⟩; have n0_ := Aside0.mk (blk_below (g := gb140) (o := .cells #[.int .i64 a1_0, .string a1_1, .string a1_2, .string a1_3, .string a1_4, .string a1_5, .string a1_6, .string a1_7, .string a1_8] 24 (0, 0)) (by (with_reducible repeat (first | refine blk_drewN ?_ _ | refine blk_drew ?_ | refine blk_alloc ?_ _)); exact BK140.out) hb); have n1_ := Aside0.mk (below_step (by repeat (first | (with_reducible first | exact HB.out | apply below_alloc | apply pw_below_drewN | apply below_drew1 | refine below_set ?_ GE140.out) | exact HB.out)) hb); clear BK140; clear HB; have BK140 := n0_; have HB := n1_; clear n0_ n1_; (try clear hb); (try clear hb2); (try clear hk); (try clear hi)))
      go_meet
      case rel => exact ⟨_, (!t142), (by first | rfl | (simp; done) | (simp [*]; done)), H', ⟨by first | omega | exact Nat.le_refl _⟩, ⟨by (with_reducible repeat (first | refine blk_drewN ?_ _ | refine blk_drew ?_ | refine blk_alloc ?_ _)); exact BK140.out⟩, ⟨by repeat (first | (with_reducible first | exact HB.out | apply below_alloc | apply pw_below_drewN | apply below_drew1 | refine below_set ?_ GE140.out) | exact HB.out)⟩⟩
    · replace c6 := Bool.eq_false_iff.mpr c6
      subst c6
      have H1 : (laws_FnListMarkdown.j0 k l0 true a1_0 a1_1 a1_2 a1_3 a1_4 a1_5 a1_6 a1_7 a1_8) = some r := by rw [if_neg (show ¬ (false = true) by decide)] at H; exact H
      clear H
      have H := H1
      clear H1
      have H' := Aside0.mk H
      clear H
      go_wp2_with (first | ((with_reducible refine gate_callee (f := 4) rfl ?_); refine goesL_ (some 6) rfl rfl Tryz.func4 (by kernel_rfl) rfl #[.slice A0 l0.length c0] rfl (by (try simp only [List.map_toArray, List.map_cons, List.map_nil]); first | done | rfl | (simp only [List.length_drop, List.length_take]; rfl)) ?_; (with_reducible refine (laws_zzFits1.calls k _ _ l0 false _ ?side1 ?side2 A5.out).mono ?_); (case side1 => repeat (first | exact (Kd.C_below HR0.out HB.out) | (with_reducible refine Kd.C_alloc ?_ _) | (with_reducible refine Kd.C_drewN ?_ _) | (with_reducible refine Kd.C_drew ?_))); (case side2 => exact HC0.out); rintro e w11 ⟨rfl, hb⟩; refine ⟨_, rfl, ?_⟩; have n0_ := Aside0.mk (blk_below (g := gb140) (o := .cells #[.int .i64 a1_0, .string a1_1, .string a1_2, .string a1_3, .string a1_4, .string a1_5, .string a1_6, .string a1_7, .string a1_8] 24 (0, 0)) (by (with_reducible repeat (first | refine blk_drewN ?_ _ | refine blk_drew ?_ | refine blk_alloc ?_ _)); exact BK140.out) hb); have n1_ := Aside0.mk (below_step (by repeat (first | (with_reducible first | exact HB.out | apply below_alloc | apply pw_below_drewN | apply below_drew1 | refine below_set ?_ GE140.out) | exact HB.out)) hb); clear BK140; clear HB; have BK140 := n0_; have HB := n1_; clear n0_ n1_; (try clear hb); (try clear hb2); (try clear hk); (try clear hi)))
      go_meet
      case rel => exact ⟨_, (true), (by first | rfl | (simp; done) | (simp [*]; done)), H', ⟨by first | omega | exact Nat.le_refl _⟩, ⟨by (with_reducible repeat (first | refine blk_drewN ?_ _ | refine blk_drew ?_ | refine blk_alloc ?_ _)); exact BK140.out⟩, ⟨by repeat (first | (with_reducible first | exact HB.out | apply below_alloc | apply pw_below_drewN | apply below_drew1 | refine below_set ?_ GE140.out) | exact HB.out)⟩⟩
  case rest =>
    clear HC3
    try clear p2
    try clear c3
    try clear c4
    try clear c6
    try clear hcz9_0
    try clear hcz9_1
    try clear hcz9_2
    try clear hcz9_3
    try clear hcz9_4
    try clear hcz9_5
    try clear hcz9_6
    try clear hcz9_7
    try clear hcz9_8
    try clear hfz9_0
    try clear hfz9_1
    try clear hfz9_2
    try clear hfz9_3
    try clear hfz9_4
    try clear hfz9_5
    try clear hfz9_6
    try clear hfz9_7
    try clear hfz9_8
    obtain ⟨kq, x12_2, rfl, HA, HJ2, BK140, HB⟩ := hcut
    cases kq with
    | zero => exact absurd HA.out (by simp [laws_FnListMarkdown.j0])
    | succ kj2 =>
      have H := HA.out
      clear HA
      simp only [laws_FnListMarkdown.j0] at H
      by_cases c12 : x12_2 = true
      · subst c12
        have H1 : (some true) = some r := by rw [if_pos rfl] at H; exact H
        clear H
        have H := H1
        clear H1
        obtain rfl := Option.some.inj H
        go_wp2
        go_ret
        exact ⟨by first | rfl | (simp [errW_none, errW_some] <;> rfl) | (simp [*, errW_none, errW_some] <;> rfl), by repeat (first | (with_reducible first | exact HB.out | apply below_alloc | apply pw_below_drewN | apply below_drew1 | refine below_set ?_ GE140.out) | exact HB.out)⟩
      · replace c12 := Bool.eq_false_iff.mpr c12
        subst c12
        have H1 : ((spec_LsRight.f kj2 l0).bind fun t143 => (if t143 = true then ((spec_LsStyled.f kj2 a1_0 a1_1 a1_2 a1_3 a1_4 a1_5 a1_6 a1_7 a1_8).bind fun t144 => (laws_FnListMarkdown.j1 kj2 l0 (!t144) a1_0 a1_1 a1_2 a1_3 a1_4 a1_5 a1_6 a1_7 a1_8)) else (laws_FnListMarkdown.j1 kj2 l0 true a1_0 a1_1 a1_2 a1_3 a1_4 a1_5 a1_6 a1_7 a1_8))) = some r := by rw [if_neg (show ¬ (false = true) by decide)] at H; exact H
        clear H
        have H := H1
        clear H1
        have HC13 := Aside0.mk H
        clear H
        go_upto_region 3 with (fail)
        go_cut [20] (fun v20 wc => ∃ (kq : Nat) (x20_12 : Bool), v20 = .bool x20_12 ∧ Aside0 (laws_FnListMarkdown.j1 kq l0 x20_12 a1_0 a1_1 a1_2 a1_3 a1_4 a1_5 a1_6 a1_7 a1_8 = some r) ∧ Aside0 (kq ≤ kj2) ∧ Aside0 (wc.heap[gb140]? = some (.cells #[.int .i64 a1_0, .string a1_1, .string a1_2, .string a1_3, .string a1_4, .string a1_5, .string a1_6, .string a1_7, .string a1_8] 24 (0, 0))) ∧ Aside0 (Below w.heap.size w wc))
        case first =>
          have H := HC13.out
          clear HC13
          replace H := Option.bind_eq_some_iff.mp H
          obtain ⟨t143, A140, H⟩ := H
          replace H : (if t143 = true then ((spec_LsStyled.f kj2 a1_0 a1_1 a1_2 a1_3 a1_4 a1_5 a1_6 a1_7 a1_8).bind fun t144 => (laws_FnListMarkdown.j1 kj2 l0 (!t144) a1_0 a1_1 a1_2 a1_3 a1_4 a1_5 a1_6 a1_7 a1_8)) else (laws_FnListMarkdown.j1 kj2 l0 true a1_0 a1_1 a1_2 a1_3 a1_4 a1_5 a1_6 a1_7 a1_8)) = some r := H
          have A14 := Aside0.mk A140
          clear A140
          by_cases c15 : t143 = true
          · subst c15
            have H1 : ((spec_LsStyled.f kj2 a1_0 a1_1 a1_2 a1_3 a1_4 a1_5 a1_6 a1_7 a1_8).bind fun t144 => (laws_FnListMarkdown.j1 kj2 l0 (!t144) a1_0 a1_1 a1_2 a1_3 a1_4 a1_5 a1_6 a1_7 a1_8)) = some r := by rw [if_pos rfl] at H; exact H
            clear H
            have H := H1
            clear H1
            replace H := Option.bind_eq_some_iff.mp H
            obtain ⟨t144, A160, H⟩ := H
            replace H : (laws_FnListMarkdown.j1 kj2 l0 (!t144) a1_0 a1_1 a1_2 a1_3 a1_4 a1_5 a1_6 a1_7 a1_8) = some r := H
            have A16 := Aside0.mk A160
            clear A160
            have H' := Aside0.mk H
            clear H
            go_wp2_with (first | ((with_reducible refine gate_callee (f := 6) rfl ?_); refine goesL_ (some 14) rfl rfl Tryz.func6 (by kernel_rfl) rfl #[.slice A0 l0.length c0] rfl (by (try simp only [List.map_toArray, List.map_cons, List.map_nil]); first | done | rfl | (simp only [List.length_drop, List.length_take]; rfl)) ?_; (with_reducible refine (spec_LsRight.calls kj2 _ _ l0 true _ ?side1 ?side2 A14.out).mono ?_); (case side1 => repeat (first | exact (Kd.C_below HR0.out HB.out) | (with_reducible refine Kd.C_alloc ?_ _) | (with_reducible refine Kd.C_drewN ?_ _) | (with_reducible refine Kd.C_drew ?_))); (case side2 => exact HC0.out); rintro e w17 ⟨rfl, hb⟩; refine ⟨_, rfl, ?_⟩; have n0_ := Aside0.mk (blk_below (g := gb140) (o := .cells #[.int .i64 a1_0, .string a1_1, .string a1_2, .string a1_3, .string a1_4, .string a1_5, .string a1_6, .string a1_7, .string a1_8] 24 (0, 0)) (by (with_reducible repeat (first | refine blk_drewN ?_ _ | refine blk_drew ?_ | refine blk_alloc ?_ _)); exact BK140.out) hb); have n1_ := Aside0.mk (below_step (by repeat (first | (with_reducible first | exact HB.out | apply below_alloc | apply pw_below_drewN | apply below_drew1 | refine below_set ?_ GE140.out) | exact HB.out)) hb); clear BK140; clear HB; have BK140 := n0_; have HB := n1_; clear n0_ n1_; (try clear hb); (try clear hb2); (try clear hk); (try clear hi); have hcz18_0 : w17.cell? ⟨gb140, 0, none⟩ = some (.int .i64 a1_0) := (blk_cell BK140.out 0).trans rfl; have hcz18_1 : w17.cell? ⟨gb140, 1, none⟩ = some (.string a1_1) := (blk_cell BK140.out 1).trans rfl; have hcz18_2 : w17.cell? ⟨gb140, 2, none⟩ = some (.string a1_2) := (blk_cell BK140.out 2).trans rfl; have hcz18_3 : w17.cell? ⟨gb140, 3, none⟩ = some (.string a1_3) := (blk_cell BK140.out 3).trans rfl; have hcz18_4 : w17.cell? ⟨gb140, 4, none⟩ = some (.string a1_4) := (blk_cell BK140.out 4).trans rfl; have hcz18_5 : w17.cell? ⟨gb140, 5, none⟩ = some (.string a1_5) := (blk_cell BK140.out 5).trans rfl; have hcz18_6 : w17.cell? ⟨gb140, 6, none⟩ = some (.string a1_6) := (blk_cell BK140.out 6).trans rfl; have hcz18_7 : w17.cell? ⟨gb140, 7, none⟩ = some (.string a1_7) := (blk_cell BK140.out 7).trans rfl; have hcz18_8 : w17.cell? ⟨gb140, 8, none⟩ = some (.string a1_8) := (blk_cell BK140.out 8).trans rfl; have hfz18_0 := blk_frozen BK140.out 0; have hfz18_1 := blk_frozen BK140.out 1; have hfz18_2 := blk_frozen BK140.out 2; have hfz18_3 := blk_frozen BK140.out 3; have hfz18_4 := blk_frozen BK140.out 4; have hfz18_5 := blk_frozen BK140.out 5; have hfz18_6 := blk_frozen BK140.out 6; have hfz18_7 := blk_frozen BK140.out 7; have hfz18_8 := blk_frozen BK140.out 8) | (go_at_call 7; (with_reducible refine (spec_LsStyled.calls kj2 a1_0 a1_1 a1_2 a1_3 a1_4 a1_5 a1_6 a1_7 a1_8 t144 _ A16.out).mono ?_); rintro e w19 ⟨rfl, hb⟩; have n0_ := Aside0.mk (blk_below (g := gb140) (o := .cells #[.int .i64 a1_0, .string a1_1, .string a1_2, .string a1_3, .string a1_4, .string a1_5, .string a1_6, .string a1_7, .string a1_8] 24 (0, 0)) (by (with_reducible repeat (first | refine blk_drewN ?_ _ | refine blk_drew ?_ | refine blk_alloc ?_ _)); exact BK140.out) hb); have n1_ := Aside0.mk (below_step (by repeat (first | (with_reducible first | exact HB.out | apply below_alloc | apply pw_below_drewN | apply below_drew1 | refine below_set ?_ GE140.out) | exact HB.out)) hb); clear BK140; clear HB; have BK140 := n0_; have HB := n1_; clear n0_ n1_; (try clear hb); (try clear hb2); (try clear hk); (try clear hi)))
            go_meet
            case rel => exact ⟨_, (!t144), (by first | rfl | (simp; done) | (simp [*]; done)), H', ⟨by have := HJ2.out; first | omega | exact Nat.le_refl _⟩, ⟨by (with_reducible repeat (first | refine blk_drewN ?_ _ | refine blk_drew ?_ | refine blk_alloc ?_ _)); exact BK140.out⟩, ⟨by repeat (first | (with_reducible first | exact HB.out | apply below_alloc | apply pw_below_drewN | apply below_drew1 | refine below_set ?_ GE140.out) | exact HB.out)⟩⟩
          · replace c15 := Bool.eq_false_iff.mpr c15
            subst c15
            have H1 : (laws_FnListMarkdown.j1 kj2 l0 true a1_0 a1_1 a1_2 a1_3 a1_4 a1_5 a1_6 a1_7 a1_8) = some r := by rw [if_neg (show ¬ (false = true) by decide)] at H; exact H
            clear H
            have H := H1
            clear H1
            have H' := Aside0.mk H
            clear H
            go_wp2_with (first | ((with_reducible refine gate_callee (f := 6) rfl ?_); refine goesL_ (some 14) rfl rfl Tryz.func6 (by kernel_rfl) rfl #[.slice A0 l0.length c0] rfl (by (try simp only [List.map_toArray, List.map_cons, List.map_nil]); first | done | rfl | (simp only [List.length_drop, List.length_take]; rfl)) ?_; (with_reducible refine (spec_LsRight.calls kj2 _ _ l0 false _ ?side1 ?side2 A14.out).mono ?_); (case side1 => repeat (first | exact (Kd.C_below HR0.out HB.out) | (with_reducible refine Kd.C_alloc ?_ _) | (with_reducible refine Kd.C_drewN ?_ _) | (with_reducible refine Kd.C_drew ?_))); (case side2 => exact HC0.out); rintro e w20 ⟨rfl, hb⟩; refine ⟨_, rfl, ?_⟩; have n0_ := Aside0.mk (blk_below (g := gb140) (o := .cells #[.int .i64 a1_0, .string a1_1, .string a1_2, .string a1_3, .string a1_4, .string a1_5, .string a1_6, .string a1_7, .string a1_8] 24 (0, 0)) (by (with_reducible repeat (first | refine blk_drewN ?_ _ | refine blk_drew ?_ | refine blk_alloc ?_ _)); exact BK140.out) hb); have n1_ := Aside0.mk (below_step (by repeat (first | (with_reducible first | exact HB.out | apply below_alloc | apply pw_below_drewN | apply below_drew1 | refine below_set ?_ GE140.out) | exact HB.out)) hb); clear BK140; clear HB; have BK140 := n0_; have HB := n1_; clear n0_ n1_; (try clear hb); (try clear hb2); (try clear hk); (try clear hi)))
            go_meet
            case rel => exact ⟨_, (true), (by first | rfl | (simp; done) | (simp [*]; done)), H', ⟨by have := HJ2.out; first | omega | exact Nat.le_refl _⟩, ⟨by (with_reducible repeat (first | refine blk_drewN ?_ _ | refine blk_drew ?_ | refine blk_alloc ?_ _)); exact BK140.out⟩, ⟨by repeat (first | (with_reducible first | exact HB.out | apply below_alloc | apply pw_below_drewN | apply below_drew1 | refine below_set ?_ GE140.out) | exact HB.out)⟩⟩
        case rest =>
          clear HC13
          try clear c1
          try clear p2
          try clear c3
          try clear c4
          try clear c6
          try clear c12
          try clear c15
          try clear hcz18_0
          try clear hcz18_1
          try clear hcz18_2
          try clear hcz18_3
          try clear hcz18_4
          try clear hcz18_5
          try clear hcz18_6
          try clear hcz18_7
          try clear hcz18_8
          try clear hcz9_0
          try clear hcz9_1
          try clear hcz9_2
          try clear hcz9_3
          try clear hcz9_4
          try clear hcz9_5
          try clear hcz9_6
          try clear hcz9_7
          try clear hcz9_8
          try clear hfz18_0
          try clear hfz18_1
          try clear hfz18_2
          try clear hfz18_3
          try clear hfz18_4
          try clear hfz18_5
          try clear hfz18_6
          try clear hfz18_7
          try clear hfz18_8
          try clear hfz9_0
          try clear hfz9_1
          try clear hfz9_2
          try clear hfz9_3
          try clear hfz9_4
          try clear hfz9_5
          try clear hfz9_6
          try clear hfz9_7
          try clear hfz9_8
          try clear p2
          obtain ⟨kq, x20_12, rfl, HA, HJ12, BK140, HB⟩ := hcut
          cases kq with
          | zero => exact absurd HA.out (by simp [laws_FnListMarkdown.j1])
          | succ kj12 =>
            have H := HA.out
            clear HA
            simp only [laws_FnListMarkdown.j1] at H
            by_cases c21 : x20_12 = true
            · subst c21
              have H1 : (some true) = some r := by rw [if_pos rfl] at H; exact H
              clear H
              have H := H1
              clear H1
              obtain rfl := Option.some.inj H
              go_wp2
              go_ret
              exact ⟨by first | rfl | (simp [errW_none, errW_some] <;> rfl) | (simp [*, errW_none, errW_some] <;> rfl), by repeat (first | (with_reducible first | exact HB.out | apply below_alloc | apply pw_below_drewN | apply below_drew1 | refine below_set ?_ GE140.out) | exact HB.out)⟩
            · replace c21 := Bool.eq_false_iff.mpr c21
              subst c21
              have H1 : ((spec_LsSteps.f kj12 l0).bind fun t145 => ((impl_ListMarkdown.f t145 a1_0 a1_1 a1_2 a1_3 a1_4 a1_5 a1_6 a1_7 a1_8).bind fun t148 => ((spec_LsSteps.f kj12 l0).bind fun t149 => ((impl_ListNamed.f 10).bind fun bt152 => ((impl_ListRender.f t149 bt152.1 bt152.2.1 bt152.2.2.1 bt152.2.2.2.1 bt152.2.2.2.2.1 bt152.2.2.2.2.2.1 bt152.2.2.2.2.2.2.1 bt152.2.2.2.2.2.2.2.1 bt152.2.2.2.2.2.2.2.2).bind fun t161 => (if t148.toList = t161.toList then ((laws_lsAlive.f).bind fun t162 => (some t162)) else (some false))))))) = some r := by rw [if_neg (show ¬ (false = true) by decide)] at H; exact H
              clear H
              have H := H1
              clear H1
              replace H := Option.bind_eq_some_iff.mp H
              obtain ⟨t145, A220, H⟩ := H
              replace H : ((impl_ListMarkdown.f t145 a1_0 a1_1 a1_2 a1_3 a1_4 a1_5 a1_6 a1_7 a1_8).bind fun t148 => ((spec_LsSteps.f kj12 l0).bind fun t149 => ((impl_ListNamed.f 10).bind fun bt152 => ((impl_ListRender.f t149 bt152.1 bt152.2.1 bt152.2.2.1 bt152.2.2.2.1 bt152.2.2.2.2.1 bt152.2.2.2.2.2.1 bt152.2.2.2.2.2.2.1 bt152.2.2.2.2.2.2.2.1 bt152.2.2.2.2.2.2.2.2).bind fun t161 => (if t148.toList = t161.toList then ((laws_lsAlive.f).bind fun t162 => (some t162)) else (some false)))))) = some r := H
              have A22 := Aside0.mk A220
              clear A220
              replace H := Option.bind_eq_some_iff.mp H
              obtain ⟨t148, A230, H⟩ := H
              replace H : ((spec_LsSteps.f kj12 l0).bind fun t149 => ((impl_ListNamed.f 10).bind fun bt152 => ((impl_ListRender.f t149 bt152.1 bt152.2.1 bt152.2.2.1 bt152.2.2.2.1 bt152.2.2.2.2.1 bt152.2.2.2.2.2.1 bt152.2.2.2.2.2.2.1 bt152.2.2.2.2.2.2.2.1 bt152.2.2.2.2.2.2.2.2).bind fun t161 => (if t148.toList = t161.toList then ((laws_lsAlive.f).bind fun t162 => (some t162)) else (some false))))) = some r := H
              have A23 := Aside0.mk A230
              clear A230
              replace H := Option.bind_eq_some_iff.mp H
              obtain ⟨t149, A240, H⟩ := H
              replace H : ((impl_ListNamed.f 10).bind fun bt152 => ((impl_ListRender.f t149 bt152.1 bt152.2.1 bt152.2.2.1 bt152.2.2.2.1 bt152.2.2.2.2.1 bt152.2.2.2.2.2.1 bt152.2.2.2.2.2.2.1 bt152.2.2.2.2.2.2.2.1 bt152.2.2.2.2.2.2.2.2).bind fun t161 => (if t148.toList = t161.toList then ((laws_lsAlive.f).bind fun t162 => (some t162)) else (some false)))) = some r := H
              have A24 := Aside0.mk A240
              clear A240
              replace H := Option.bind_eq_some_iff.mp H
              obtain ⟨⟨t152, t153, t154, t155, t156, t157, t158, t159, t160⟩, A250, H⟩ := H
              replace H : ((impl_ListRender.f t149 t152 t153 t154 t155 t156 t157 t158 t159 t160).bind fun t161 => (if t148.toList = t161.toList then ((laws_lsAlive.f).bind fun t162 => (some t162)) else (some false))) = some r := H
              have A25 := Aside0.mk A250
              clear A250
              replace H := Option.bind_eq_some_iff.mp H
              obtain ⟨t161, A260, H⟩ := H
              replace H : (if t148.toList = t161.toList then ((laws_lsAlive.f).bind fun t162 => (some t162)) else (some false)) = some r := H
              have A26 := Aside0.mk A260
              clear A260
              by_cases c27 : t148.toList = t161.toList
              · rw [if_pos c27] at H
                have c27b0 : (t148.toList == t161.toList) = true := beq_iff_eq.mpr c27
                have c27b1 : (t148.toList != t161.toList) = false := bne_eq_false_iff_eq.mpr c27
                clear c27
                replace H := Option.bind_eq_some_iff.mp H
                obtain ⟨t162, A280, H⟩ := H
                replace H : (some t162) = some r := H
                have A28 := Aside0.mk A280
                clear A280
                obtain rfl := Option.some.inj H
                try go_wp2
                have n0_ := Aside0.mk (blk_drew BK140.out)
                have n1_ := Aside0.mk (below_drew1 HB.out)
                clear BK140
                clear HB
                have BK140 := n0_
                have HB := n1_
                clear n0_ n1_
                refine start_ (n := 13) (S := fun w' => w'.cell? ⟨gb140, 0, none⟩ = some (.int .i64 a1_0) ∧ w'.cell? ⟨gb140, 1, none⟩ = some (.string a1_1) ∧ w'.cell? ⟨gb140, 2, none⟩ = some (.string a1_2) ∧ w'.cell? ⟨gb140, 3, none⟩ = some (.string a1_3) ∧ w'.cell? ⟨gb140, 4, none⟩ = some (.string a1_4) ∧ w'.cell? ⟨gb140, 5, none⟩ = some (.string a1_5) ∧ w'.cell? ⟨gb140, 6, none⟩ = some (.string a1_6) ∧ w'.cell? ⟨gb140, 7, none⟩ = some (.string a1_7) ∧ w'.cell? ⟨gb140, 8, none⟩ = some (.string a1_8)) (ds := []) #[false, false, false, false, false, false, false, false, false, false, false, false, false] (by kernel_rfl) rfl rfl ⟨(blk_cell BK140.out 0).trans rfl, (blk_cell BK140.out 1).trans rfl, (blk_cell BK140.out 2).trans rfl, (blk_cell BK140.out 3).trans rfl, (blk_cell BK140.out 4).trans rfl, (blk_cell BK140.out 5).trans rfl, (blk_cell BK140.out 6).trans rfl, (blk_cell BK140.out 7).trans rfl, (blk_cell BK140.out 8).trans rfl⟩ (fun hHeld => ?_); refine with_tabW laws_FnListMarkdown.tab5 laws_FnListMarkdown.bits5 (fun HT_ HW_ => ?_)
                generalize wc.drew = w29 at BK140 HB hHeld ⊢
                refine pure_ (i := 0) (N := some 21) (v := ?_) (a' := ?_) #[true, false, false, false, false, false, false, false, false, false, false, false, false] rfl rfl (any_of HT_.out (by kernel_rfl)) (fun _ _ _ h => h) (Or.inl ⟨by rfl, ?_⟩) ?_ ?_
                rotate_left
                · intro w'
                  go_simp
                  with_reducible rfl
                rotate_left
                · simp only [Act.put, List.setIfInBounds_toArray, List.set_cons_zero, List.set_cons_succ, i64_w, i32_w]
                  rfl
                refine pure_ (i := 4) (N := some 25) (v := ?_) (a' := ?_) #[true, false, false, false, true, false, false, false, false, false, false, false, false] rfl rfl (any_of HT_.out (by kernel_rfl)) (fun _ _ _ h => h) (Or.inl ⟨by rfl, ?_⟩) ?_ ?_
                rotate_left
                · intro w'
                  go_simp
                  with_reducible rfl
                rotate_left
                · simp only [Act.put, List.setIfInBounds_toArray, List.set_cons_zero, List.set_cons_succ, i64_w, i32_w]
                  rfl
                refine take_ (i := 2) (N := some 23) (v := ?_) (a' := ?_) #[true, false, true, false, true, false, false, false, false, false, false, false, false] rfl rfl (take_ofW HT_.out HW_.out (by kernel_rfl)) (fun _ _ _ h => h) (Or.inl ⟨by rfl, ?_⟩) hHeld ?_ ?_
                rotate_left
                · rintro w' ⟨s0, s1, s2, s3, s4, s5, s6, s7, s8⟩
                  go_simp
                  with_reducible rfl
                rotate_left
                · simp only [Act.put, List.setIfInBounds_toArray, List.set_cons_zero, List.set_cons_succ, i64_w, i32_w]
                  rfl
                refine one_ (i := 1) (N := some 22) #[true, true, true, false, true, false, false, false, false, false, false, false, false] rfl rfl (one_of HT_.out (by kernel_rfl)) (by decide) (fun K hK => ?_)
                refine goes_ Tryz.func9 (by kernel_rfl) rfl #[.slice A0 l0.length c0] (by rfl) rfl rfl (by (try simp only [List.map_toArray, List.map_cons, List.map_nil]); first | done | rfl | (simp only [List.length_drop, List.length_take]; rfl)) ?_
                with_reducible refine (spec_LsSteps.calls kj12 _ _ l0 t145 _ ?side1 ?side2 A22.out).mono ?_
                (case side1 => repeat (first | exact (Kd.C_below HR0.out HB.out) | (with_reducible refine Kd.C_alloc ?_ _) | (with_reducible refine Kd.C_drewN ?_ _) | (with_reducible refine Kd.C_drew ?_)))
                (case side2 => exact HC0.out)
                rintro e w30 ⟨v146, rfl, ho0, hb⟩
                refine ⟨_, rfl, ?_⟩
                have n0_ := Aside0.mk (Kd.S_lower ho0 (below_size (by repeat (first | (with_reducible first | exact HB.out | apply below_alloc | apply pw_below_drewN | apply below_drew1 | refine below_set ?_ GE140.out) | exact HB.out))))
                have n1_ := Aside0.mk (blk_below (g := gb140) (o := .cells #[.int .i64 a1_0, .string a1_1, .string a1_2, .string a1_3, .string a1_4, .string a1_5, .string a1_6, .string a1_7, .string a1_8] 24 (0, 0)) (by (with_reducible repeat (first | refine blk_drewN ?_ _ | refine blk_drew ?_ | refine blk_alloc ?_ _)); exact BK140.out) hb)
                have n2_ := Aside0.mk (below_step (by repeat (first | (with_reducible first | exact HB.out | apply below_alloc | apply pw_below_drewN | apply below_drew1 | refine below_set ?_ GE140.out) | exact HB.out)) hb)
                clear BK140
                clear HB
                have HO147 := n0_
                have BK140 := n1_
                have HB := n2_
                clear n0_ n1_ n2_
                (try clear hb)
                (try clear hb2)
                (try clear hk)
                (try clear hi)
                (try clear ho0)
                obtain ⟨Ao31, co31, eo31⟩ := Kd.S_slice HO147.out
                (first | subst eo31 | (injection eo31 with f1_ f2_ f3_; have f4_ := f1_.symm; have f5_ := f3_.symm; clear f1_ f2_ f3_; subst f4_; subst f5_))
                refine hK.out _ _ ⟨(blk_cell BK140.out 0).trans rfl, (blk_cell BK140.out 1).trans rfl, (blk_cell BK140.out 2).trans rfl, (blk_cell BK140.out 3).trans rfl, (blk_cell BK140.out 4).trans rfl, (blk_cell BK140.out 5).trans rfl, (blk_cell BK140.out 6).trans rfl, (blk_cell BK140.out 7).trans rfl, (blk_cell BK140.out 8).trans rfl⟩ (fun hHeld => ?_)
                clear hK K
                refine norm_ (a' := ?_) ?_ ?_
                rotate_left
                · show Act.put _ (some 22) _ = _
                  simp only [Act.put, List.setIfInBounds_toArray, List.set_cons_zero, List.set_cons_succ, i64_w, i32_w]
                  rfl
                refine one_ (i := 3) (N := some 24) #[true, true, true, true, true, false, false, false, false, false, false, false, false] rfl rfl (one_of HT_.out (by kernel_rfl)) (by decide) (fun K hK => ?_)
                refine goes_ Tryz.func8 (by kernel_rfl) rfl #[.slice Ao31 t145.length co31, .agg #[.int .i64 a1_0, .string a1_1, .string a1_2, .string a1_3, .string a1_4, .string a1_5, .string a1_6, .string a1_7, .string a1_8]] (by rfl) rfl rfl (by (try simp only [List.map_toArray, List.map_cons, List.map_nil]); first | done | rfl | (simp only [List.length_drop, List.length_take]; rfl)) ?_
                with_reducible refine (impl_ListMarkdown.calls _ _ t145 a1_0 a1_1 a1_2 a1_3 a1_4 a1_5 a1_6 a1_7 a1_8 t148 _ ?side1 ?side2 A23.out).mono ?_
                (case side1 => repeat (first | exact (Kd.S_reads' HO147.out).2.2 | (with_reducible refine Kd.C_alloc ?_ _) | (with_reducible refine Kd.C_drewN ?_ _) | (with_reducible refine Kd.C_drew ?_)))
                (case side2 => exact (Kd.S_reads' HO147.out).2.1)
                rintro e w32 ⟨rfl, hb⟩
                refine ⟨_, rfl, ?_⟩
                have n0_ := Aside0.mk (Kd.S_below (by (with_reducible repeat (first | apply Kd.S_alloc | apply Kd.S_drewN | apply Kd.S_drew)); exact HO147.out) hb)
                have n1_ := Aside0.mk (blk_below (g := gb140) (o := .cells #[.int .i64 a1_0, .string a1_1, .string a1_2, .string a1_3, .string a1_4, .string a1_5, .string a1_6, .string a1_7, .string a1_8] 24 (0, 0)) (by (with_reducible repeat (first | refine blk_drewN ?_ _ | refine blk_drew ?_ | refine blk_alloc ?_ _)); exact BK140.out) hb)
                have n2_ := Aside0.mk (below_step (by repeat (first | (with_reducible first | exact HB.out | apply below_alloc | apply pw_below_drewN | apply below_drew1 | refine below_set ?_ GE140.out) | exact HB.out)) hb)
                clear HO147
                clear BK140
                clear HB
                have HO147 := n0_
                have BK140 := n1_
                have HB := n2_
                clear n0_ n1_ n2_
                (try clear hb)
                (try clear hb2)
                (try clear hk)
                (try clear hi)
                refine hK.out _ _ ⟨(blk_cell BK140.out 0).trans rfl, (blk_cell BK140.out 1).trans rfl, (blk_cell BK140.out 2).trans rfl, (blk_cell BK140.out 3).trans rfl, (blk_cell BK140.out 4).trans rfl, (blk_cell BK140.out 5).trans rfl, (blk_cell BK140.out 6).trans rfl, (blk_cell BK140.out 7).trans rfl, (blk_cell BK140.out 8).trans rfl⟩ (fun hHeld => ?_)
                clear hK K
                refine norm_ (a' := ?_) ?_ ?_
                rotate_left
                · show Act.put _ (some 24) _ = _
                  simp only [Act.put, List.setIfInBounds_toArray, List.set_cons_zero, List.set_cons_succ, i64_w, i32_w]
                  rfl
                refine one_ (i := 5) (N := some 26) #[true, true, true, true, true, true, false, false, false, false, false, false, false] rfl rfl (one_of HT_.out (by kernel_rfl)) (by decide) (fun K hK => ?_)
                refine goes_ Tryz.func9 (by kernel_rfl) rfl #[.slice A0 l0.length c0] (by rfl) rfl rfl (by (try simp only [List.map_toArray, List.map_cons, List.map_nil]); first | done | rfl | (simp only [List.length_drop, List.length_take]; rfl)) ?_
                with_reducible refine (spec_LsSteps.calls kj12 _ _ l0 t149 _ ?side1 ?side2 A24.out).mono ?_
                (case side1 => repeat (first | exact (Kd.C_below HR0.out HB.out) | (with_reducible refine Kd.C_alloc ?_ _) | (with_reducible refine Kd.C_drewN ?_ _) | (with_reducible refine Kd.C_drew ?_)))
                (case side2 => exact HC0.out)
                rintro e w33 ⟨v150, rfl, ho0, hb⟩
                refine ⟨_, rfl, ?_⟩
                have n0_ := Aside0.mk (Kd.S_elder' (by (with_reducible repeat (first | apply Kd.S_alloc | apply Kd.S_drewN | apply Kd.S_drew)); exact HO147.out) (Kd.S_base ho0) hb)
                have n1_ := Aside0.mk (Kd.S_lower (Kd.S_new' ho0 (Kd.S_lt (by (with_reducible repeat (first | apply Kd.S_alloc | apply Kd.S_drewN | apply Kd.S_drew)); exact HO147.out))) (below_size (by repeat (first | (with_reducible first | exact HB.out | apply below_alloc | apply pw_below_drewN | apply below_drew1 | refine below_set ?_ GE140.out) | exact HB.out))))
                have n2_ := Aside0.mk (blk_below (g := gb140) (o := .cells #[.int .i64 a1_0, .string a1_1, .string a1_2, .string a1_3, .string a1_4, .string a1_5, .string a1_6, .string a1_7, .string a1_8] 24 (0, 0)) (by (with_reducible repeat (first | refine blk_drewN ?_ _ | refine blk_drew ?_ | refine blk_alloc ?_ _)); exact BK140.out) hb)
                have n3_ := Aside0.mk (below_step (by repeat (first | (with_reducible first | exact HB.out | apply below_alloc | apply pw_below_drewN | apply below_drew1 | refine below_set ?_ GE140.out) | exact HB.out)) hb)
                clear HO147
                clear BK140
                clear HB
                have HO147 := n0_
                have HO151 := n1_
                have BK140 := n2_
                have HB := n3_
                clear n0_ n1_ n2_ n3_
                (try clear hb)
                (try clear hb2)
                (try clear hk)
                (try clear hi)
                (try clear ho0)
                refine hK.out _ _ ⟨(blk_cell BK140.out 0).trans rfl, (blk_cell BK140.out 1).trans rfl, (blk_cell BK140.out 2).trans rfl, (blk_cell BK140.out 3).trans rfl, (blk_cell BK140.out 4).trans rfl, (blk_cell BK140.out 5).trans rfl, (blk_cell BK140.out 6).trans rfl, (blk_cell BK140.out 7).trans rfl, (blk_cell BK140.out 8).trans rfl⟩ (fun hHeld => ?_)
                clear hK K
                refine norm_ (a' := ?_) ?_ ?_
                rotate_left
                · show Act.put _ (some 26) _ = _
                  simp only [Act.put, List.setIfInBounds_toArray, List.set_cons_zero, List.set_cons_succ, i64_w, i32_w]
                  rfl
                refine one_ (i := 6) (N := some 27) #[true, true, true, true, true, true, true, false, false, false, false, false, false] rfl rfl (one_of HT_.out (by kernel_rfl)) (by decide) (fun K hK => ?_)
                refine goes_ Tryz.func11 (by kernel_rfl) rfl #[.int .i64 10] (by rfl) rfl rfl (by (try simp only [List.map_toArray, List.map_cons, List.map_nil]); first | done | rfl | (simp only [List.length_drop, List.length_take]; rfl)) ?_
                with_reducible refine (impl_ListNamed.calls 10 t152 t153 t154 t155 t156 t157 t158 t159 t160 _ A25.out).mono ?_
                rintro e w34 ⟨rfl, hb⟩
                refine ⟨_, rfl, ?_⟩
                have n0_ := Aside0.mk (Kd.S_below (by (with_reducible repeat (first | apply Kd.S_alloc | apply Kd.S_drewN | apply Kd.S_drew)); exact HO147.out) hb)
                have n1_ := Aside0.mk (Kd.S_below (by (with_reducible repeat (first | apply Kd.S_alloc | apply Kd.S_drewN | apply Kd.S_drew)); exact HO151.out) hb)
                have n2_ := Aside0.mk (blk_below (g := gb140) (o := .cells #[.int .i64 a1_0, .string a1_1, .string a1_2, .string a1_3, .string a1_4, .string a1_5, .string a1_6, .string a1_7, .string a1_8] 24 (0, 0)) (by (with_reducible repeat (first | refine blk_drewN ?_ _ | refine blk_drew ?_ | refine blk_alloc ?_ _)); exact BK140.out) hb)
                have n3_ := Aside0.mk (below_step (by repeat (first | (with_reducible first | exact HB.out | apply below_alloc | apply pw_below_drewN | apply below_drew1 | refine below_set ?_ GE140.out) | exact HB.out)) hb)
                clear HO147
                clear HO151
                clear BK140
                clear HB
                have HO147 := n0_
                have HO151 := n1_
                have BK140 := n2_
                have HB := n3_
                clear n0_ n1_ n2_ n3_
                (try clear hb)
                (try clear hb2)
                (try clear hk)
                (try clear hi)
                obtain ⟨Ao35, co35, eo35⟩ := Kd.S_slice HO151.out
                (first | subst eo35 | (injection eo35 with f1_ f2_ f3_; have f4_ := f1_.symm; have f5_ := f3_.symm; clear f1_ f2_ f3_; subst f4_; subst f5_))
                refine hK.out _ _ ⟨(blk_cell BK140.out 0).trans rfl, (blk_cell BK140.out 1).trans rfl, (blk_cell BK140.out 2).trans rfl, (blk_cell BK140.out 3).trans rfl, (blk_cell BK140.out 4).trans rfl, (blk_cell BK140.out 5).trans rfl, (blk_cell BK140.out 6).trans rfl, (blk_cell BK140.out 7).trans rfl, (blk_cell BK140.out 8).trans rfl⟩ (fun hHeld => ?_)
                clear hK K
                refine norm_ (a' := ?_) ?_ ?_
                rotate_left
                · show Act.put _ (some 27) _ = _
                  simp only [Act.put, List.setIfInBounds_toArray, List.set_cons_zero, List.set_cons_succ, i64_w, i32_w]
                  rfl
                refine one_ (i := 7) (N := some 28) #[true, true, true, true, true, true, true, true, false, false, false, false, false] rfl rfl (one_of HT_.out (by kernel_rfl)) (by decide) (fun K hK => ?_)
                refine goes_ Tryz.func10 (by kernel_rfl) rfl #[.slice Ao35 t149.length co35, .agg #[.int .i64 t152, .string t153, .string t154, .string t155, .string t156, .string t157, .string t158, .string t159, .string t160]] (by rfl) rfl rfl (by (try simp only [List.map_toArray, List.map_cons, List.map_nil]); first | done | rfl | (simp only [List.length_drop, List.length_take]; rfl)) ?_
                with_reducible refine (impl_ListRender.calls _ _ t149 t152 t153 t154 t155 t156 t157 t158 t159 t160 t161 _ ?side1 ?side2 A26.out).mono ?_
                (case side1 => repeat (first | exact (Kd.S_reads' HO151.out).2.2 | (with_reducible refine Kd.C_alloc ?_ _) | (with_reducible refine Kd.C_drewN ?_ _) | (with_reducible refine Kd.C_drew ?_)))
                (case side2 => exact (Kd.S_reads' HO151.out).2.1)
                rintro e w36 ⟨rfl, hb⟩
                refine ⟨_, rfl, ?_⟩
                have n0_ := Aside0.mk (Kd.S_below (by (with_reducible repeat (first | apply Kd.S_alloc | apply Kd.S_drewN | apply Kd.S_drew)); exact HO147.out) hb)
                have n1_ := Aside0.mk (Kd.S_below (by (with_reducible repeat (first | apply Kd.S_alloc | apply Kd.S_drewN | apply Kd.S_drew)); exact HO151.out) hb)
                have n2_ := Aside0.mk (blk_below (g := gb140) (o := .cells #[.int .i64 a1_0, .string a1_1, .string a1_2, .string a1_3, .string a1_4, .string a1_5, .string a1_6, .string a1_7, .string a1_8] 24 (0, 0)) (by (with_reducible repeat (first | refine blk_drewN ?_ _ | refine blk_drew ?_ | refine blk_alloc ?_ _)); exact BK140.out) hb)
                have n3_ := Aside0.mk (below_step (by repeat (first | (with_reducible first | exact HB.out | apply below_alloc | apply pw_below_drewN | apply below_drew1 | refine below_set ?_ GE140.out) | exact HB.out)) hb)
                clear HO147
                clear HO151
                clear BK140
                clear HB
                have HO147 := n0_
                have HO151 := n1_
                have BK140 := n2_
                have HB := n3_
                clear n0_ n1_ n2_ n3_
                (try clear hb)
                (try clear hb2)
                (try clear hk)
                (try clear hi)
                refine hK.out _ _ ⟨(blk_cell BK140.out 0).trans rfl, (blk_cell BK140.out 1).trans rfl, (blk_cell BK140.out 2).trans rfl, (blk_cell BK140.out 3).trans rfl, (blk_cell BK140.out 4).trans rfl, (blk_cell BK140.out 5).trans rfl, (blk_cell BK140.out 6).trans rfl, (blk_cell BK140.out 7).trans rfl, (blk_cell BK140.out 8).trans rfl⟩ (fun hHeld => ?_)
                clear hK K
                refine norm_ (a' := ?_) ?_ ?_
                rotate_left
                · show Act.put _ (some 28) _ = _
                  simp only [Act.put, List.setIfInBounds_toArray, List.set_cons_zero, List.set_cons_succ, i64_w, i32_w]
                  rfl
                refine pure_ (i := 8) (N := some 29) (v := ?_) (a' := ?_) #[true, true, true, true, true, true, true, true, true, false, false, false, false] rfl rfl (any_of HT_.out (by kernel_rfl)) (fun _ _ _ h => h) (Or.inl ⟨by rfl, ?_⟩) ?_ ?_
                rotate_left
                · intro w'
                  go_simp
                  with_reducible rfl
                rotate_left
                · simp only [Act.put, List.setIfInBounds_toArray, List.set_cons_zero, List.set_cons_succ, i64_w, i32_w]
                  rfl
                refine pure_ (i := 9) (N := some 30) (v := ?_) (a' := ?_) #[true, true, true, true, true, true, true, true, true, true, false, false, false] rfl rfl (any_of HT_.out (by kernel_rfl)) (fun _ _ _ h => h) (Or.inl ⟨by rfl, ?_⟩) ?_ ?_
                rotate_left
                · intro w'
                  go_simp
                  with_reducible rfl
                rotate_left
                · simp only [Act.put, List.setIfInBounds_toArray, List.set_cons_zero, List.set_cons_succ, i64_w, i32_w]
                  rfl
                refine one_ (i := 10) (N := some 31) #[true, true, true, true, true, true, true, true, true, true, true, false, false] rfl rfl (one_of HT_.out (by kernel_rfl)) (by decide) (fun K hK => ?_)
                refine goes_ Tryz.func12 (by kernel_rfl) rfl #[] (by rfl) rfl rfl (by (try simp only [List.map_toArray, List.map_cons, List.map_nil]); first | done | rfl | (simp only [List.length_drop, List.length_take]; rfl)) ?_
                with_reducible refine (laws_lsAlive.calls  t162 _ A28.out).mono ?_
                rintro e w37 ⟨rfl, hb⟩
                refine ⟨_, rfl, ?_⟩
                have n0_ := Aside0.mk (Kd.S_below (by (with_reducible repeat (first | apply Kd.S_alloc | apply Kd.S_drewN | apply Kd.S_drew)); exact HO147.out) hb)
                have n1_ := Aside0.mk (Kd.S_below (by (with_reducible repeat (first | apply Kd.S_alloc | apply Kd.S_drewN | apply Kd.S_drew)); exact HO151.out) hb)
                have n2_ := Aside0.mk (blk_below (g := gb140) (o := .cells #[.int .i64 a1_0, .string a1_1, .string a1_2, .string a1_3, .string a1_4, .string a1_5, .string a1_6, .string a1_7, .string a1_8] 24 (0, 0)) (by (with_reducible repeat (first | refine blk_drewN ?_ _ | refine blk_drew ?_ | refine blk_alloc ?_ _)); exact BK140.out) hb)
                have n3_ := Aside0.mk (below_step (by repeat (first | (with_reducible first | exact HB.out | apply below_alloc | apply pw_below_drewN | apply below_drew1 | refine below_set ?_ GE140.out) | exact HB.out)) hb)
                clear HO147
                clear HO151
                clear BK140
                clear HB
                have HO147 := n0_
                have HO151 := n1_
                have BK140 := n2_
                have HB := n3_
                clear n0_ n1_ n2_ n3_
                (try clear hb)
                (try clear hb2)
                (try clear hk)
                (try clear hi)
                refine hK.out _ _ ⟨(blk_cell BK140.out 0).trans rfl, (blk_cell BK140.out 1).trans rfl, (blk_cell BK140.out 2).trans rfl, (blk_cell BK140.out 3).trans rfl, (blk_cell BK140.out 4).trans rfl, (blk_cell BK140.out 5).trans rfl, (blk_cell BK140.out 6).trans rfl, (blk_cell BK140.out 7).trans rfl, (blk_cell BK140.out 8).trans rfl⟩ (fun hHeld => ?_)
                clear hK K
                refine norm_ (a' := ?_) ?_ ?_
                rotate_left
                · show Act.put _ (some 31) _ = _
                  simp only [Act.put, List.setIfInBounds_toArray, List.set_cons_zero, List.set_cons_succ, i64_w, i32_w]
                  rfl
                refine pure_ (i := 11) (N := some 32) (v := ?_) (a' := ?_) #[true, true, true, true, true, true, true, true, true, true, true, true, false] rfl rfl (any_of HT_.out (by kernel_rfl)) (fun _ _ _ h => h) (Or.inl ⟨by rfl, ?_⟩) ?_ ?_
                rotate_left
                · intro w'
                  go_simp
                  with_reducible rfl
                rotate_left
                · simp only [Act.put, List.setIfInBounds_toArray, List.set_cons_zero, List.set_cons_succ, i64_w, i32_w]
                  rfl
                refine pure_ (i := 12) (N := some 4) (v := ?_) (a' := ?_) #[true, true, true, true, true, true, true, true, true, true, true, true, true] rfl rfl (any_of HT_.out (by kernel_rfl)) (fun _ _ _ h => h) (Or.inl ⟨by rfl, ?_⟩) ?_ ?_
                rotate_left
                · intro w'
                  go_simp
                  with_reducible rfl
                rotate_left
                · simp only [Act.put, List.setIfInBounds_toArray, List.set_cons_zero, List.set_cons_succ, i64_w, i32_w]
                  rfl
                refine done_ (done_of HT_.out (by kernel_rfl)) ?_
                try go_wp2
                go_ret
                exact ⟨by first | rfl | (simp [errW_none, errW_some] <;> rfl) | (simp [*, errW_none, errW_some] <;> rfl), by repeat (first | (with_reducible first | exact HB.out | apply below_alloc | apply pw_below_drewN | apply below_drew1 | refine below_set ?_ GE140.out) | exact HB.out)⟩
              · rw [if_neg c27] at H
                have c27b0 : (t148.toList == t161.toList) = false := beq_eq_false_iff_ne.mpr c27
                have c27b1 : (t148.toList != t161.toList) = true := bne_iff_ne.mpr c27
                obtain rfl := Option.some.inj H
                try go_wp2
                have n0_ := Aside0.mk (blk_drew BK140.out)
                have n1_ := Aside0.mk (below_drew1 HB.out)
                clear BK140
                clear HB
                have BK140 := n0_
                have HB := n1_
                clear n0_ n1_
                refine start_ (n := 13) (S := fun w' => w'.cell? ⟨gb140, 0, none⟩ = some (.int .i64 a1_0) ∧ w'.cell? ⟨gb140, 1, none⟩ = some (.string a1_1) ∧ w'.cell? ⟨gb140, 2, none⟩ = some (.string a1_2) ∧ w'.cell? ⟨gb140, 3, none⟩ = some (.string a1_3) ∧ w'.cell? ⟨gb140, 4, none⟩ = some (.string a1_4) ∧ w'.cell? ⟨gb140, 5, none⟩ = some (.string a1_5) ∧ w'.cell? ⟨gb140, 6, none⟩ = some (.string a1_6) ∧ w'.cell? ⟨gb140, 7, none⟩ = some (.string a1_7) ∧ w'.cell? ⟨gb140, 8, none⟩ = some (.string a1_8)) (ds := []) #[false, false, false, false, false, false, false, false, false, false, false, false, false] (by kernel_rfl) rfl rfl ⟨(blk_cell BK140.out 0).trans rfl, (blk_cell BK140.out 1).trans rfl, (blk_cell BK140.out 2).trans rfl, (blk_cell BK140.out 3).trans rfl, (blk_cell BK140.out 4).trans rfl, (blk_cell BK140.out 5).trans rfl, (blk_cell BK140.out 6).trans rfl, (blk_cell BK140.out 7).trans rfl, (blk_cell BK140.out 8).trans rfl⟩ (fun hHeld => ?_); refine with_tabW laws_FnListMarkdown.tab5 laws_FnListMarkdown.bits5 (fun HT_ HW_ => ?_)
                generalize wc.drew = w38 at BK140 HB hHeld ⊢
                refine pure_ (i := 0) (N := some 21) (v := ?_) (a' := ?_) #[true, false, false, false, false, false, false, false, false, false, false, false, false] rfl rfl (any_of HT_.out (by kernel_rfl)) (fun _ _ _ h => h) (Or.inl ⟨by rfl, ?_⟩) ?_ ?_
                rotate_left
                · intro w'
                  go_simp
                  with_reducible rfl
                rotate_left
                · simp only [Act.put, List.setIfInBounds_toArray, List.set_cons_zero, List.set_cons_succ, i64_w, i32_w]
                  rfl
                refine pure_ (i := 4) (N := some 25) (v := ?_) (a' := ?_) #[true, false, false, false, true, false, false, false, false, false, false, false, false] rfl rfl (any_of HT_.out (by kernel_rfl)) (fun _ _ _ h => h) (Or.inl ⟨by rfl, ?_⟩) ?_ ?_
                rotate_left
                · intro w'
                  go_simp
                  with_reducible rfl
                rotate_left
                · simp only [Act.put, List.setIfInBounds_toArray, List.set_cons_zero, List.set_cons_succ, i64_w, i32_w]
                  rfl
                refine take_ (i := 2) (N := some 23) (v := ?_) (a' := ?_) #[true, false, true, false, true, false, false, false, false, false, false, false, false] rfl rfl (take_ofW HT_.out HW_.out (by kernel_rfl)) (fun _ _ _ h => h) (Or.inl ⟨by rfl, ?_⟩) hHeld ?_ ?_
                rotate_left
                · rintro w' ⟨s0, s1, s2, s3, s4, s5, s6, s7, s8⟩
                  go_simp
                  with_reducible rfl
                rotate_left
                · simp only [Act.put, List.setIfInBounds_toArray, List.set_cons_zero, List.set_cons_succ, i64_w, i32_w]
                  rfl
                refine one_ (i := 1) (N := some 22) #[true, true, true, false, true, false, false, false, false, false, false, false, false] rfl rfl (one_of HT_.out (by kernel_rfl)) (by decide) (fun K hK => ?_)
                refine goes_ Tryz.func9 (by kernel_rfl) rfl #[.slice A0 l0.length c0] (by rfl) rfl rfl (by (try simp only [List.map_toArray, List.map_cons, List.map_nil]); first | done | rfl | (simp only [List.length_drop, List.length_take]; rfl)) ?_
                with_reducible refine (spec_LsSteps.calls kj12 _ _ l0 t145 _ ?side1 ?side2 A22.out).mono ?_
                (case side1 => repeat (first | exact (Kd.C_below HR0.out HB.out) | (with_reducible refine Kd.C_alloc ?_ _) | (with_reducible refine Kd.C_drewN ?_ _) | (with_reducible refine Kd.C_drew ?_)))
                (case side2 => exact HC0.out)
                rintro e w39 ⟨v146, rfl, ho0, hb⟩
                refine ⟨_, rfl, ?_⟩
                have n0_ := Aside0.mk (Kd.S_lower ho0 (below_size (by repeat (first | (with_reducible first | exact HB.out | apply below_alloc | apply pw_below_drewN | apply below_drew1 | refine below_set ?_ GE140.out) | exact HB.out))))
                have n1_ := Aside0.mk (blk_below (g := gb140) (o := .cells #[.int .i64 a1_0, .string a1_1, .string a1_2, .string a1_3, .string a1_4, .string a1_5, .string a1_6, .string a1_7, .string a1_8] 24 (0, 0)) (by (with_reducible repeat (first | refine blk_drewN ?_ _ | refine blk_drew ?_ | refine blk_alloc ?_ _)); exact BK140.out) hb)
                have n2_ := Aside0.mk (below_step (by repeat (first | (with_reducible first | exact HB.out | apply below_alloc | apply pw_below_drewN | apply below_drew1 | refine below_set ?_ GE140.out) | exact HB.out)) hb)
                clear BK140
                clear HB
                have HO147 := n0_
                have BK140 := n1_
                have HB := n2_
                clear n0_ n1_ n2_
                (try clear hb)
                (try clear hb2)
                (try clear hk)
                (try clear hi)
                (try clear ho0)
                obtain ⟨Ao40, co40, eo40⟩ := Kd.S_slice HO147.out
                (first | subst eo40 | (injection eo40 with f1_ f2_ f3_; have f4_ := f1_.symm; have f5_ := f3_.symm; clear f1_ f2_ f3_; subst f4_; subst f5_))
                refine hK.out _ _ ⟨(blk_cell BK140.out 0).trans rfl, (blk_cell BK140.out 1).trans rfl, (blk_cell BK140.out 2).trans rfl, (blk_cell BK140.out 3).trans rfl, (blk_cell BK140.out 4).trans rfl, (blk_cell BK140.out 5).trans rfl, (blk_cell BK140.out 6).trans rfl, (blk_cell BK140.out 7).trans rfl, (blk_cell BK140.out 8).trans rfl⟩ (fun hHeld => ?_)
                clear hK K
                refine norm_ (a' := ?_) ?_ ?_
                rotate_left
                · show Act.put _ (some 22) _ = _
                  simp only [Act.put, List.setIfInBounds_toArray, List.set_cons_zero, List.set_cons_succ, i64_w, i32_w]
                  rfl
                refine one_ (i := 3) (N := some 24) #[true, true, true, true, true, false, false, false, false, false, false, false, false] rfl rfl (one_of HT_.out (by kernel_rfl)) (by decide) (fun K hK => ?_)
                refine goes_ Tryz.func8 (by kernel_rfl) rfl #[.slice Ao40 t145.length co40, .agg #[.int .i64 a1_0, .string a1_1, .string a1_2, .string a1_3, .string a1_4, .string a1_5, .string a1_6, .string a1_7, .string a1_8]] (by rfl) rfl rfl (by (try simp only [List.map_toArray, List.map_cons, List.map_nil]); first | done | rfl | (simp only [List.length_drop, List.length_take]; rfl)) ?_
                with_reducible refine (impl_ListMarkdown.calls _ _ t145 a1_0 a1_1 a1_2 a1_3 a1_4 a1_5 a1_6 a1_7 a1_8 t148 _ ?side1 ?side2 A23.out).mono ?_
                (case side1 => repeat (first | exact (Kd.S_reads' HO147.out).2.2 | (with_reducible refine Kd.C_alloc ?_ _) | (with_reducible refine Kd.C_drewN ?_ _) | (with_reducible refine Kd.C_drew ?_)))
                (case side2 => exact (Kd.S_reads' HO147.out).2.1)
                rintro e w41 ⟨rfl, hb⟩
                refine ⟨_, rfl, ?_⟩
                have n0_ := Aside0.mk (Kd.S_below (by (with_reducible repeat (first | apply Kd.S_alloc | apply Kd.S_drewN | apply Kd.S_drew)); exact HO147.out) hb)
                have n1_ := Aside0.mk (blk_below (g := gb140) (o := .cells #[.int .i64 a1_0, .string a1_1, .string a1_2, .string a1_3, .string a1_4, .string a1_5, .string a1_6, .string a1_7, .string a1_8] 24 (0, 0)) (by (with_reducible repeat (first | refine blk_drewN ?_ _ | refine blk_drew ?_ | refine blk_alloc ?_ _)); exact BK140.out) hb)
                have n2_ := Aside0.mk (below_step (by repeat (first | (with_reducible first | exact HB.out | apply below_alloc | apply pw_below_drewN | apply below_drew1 | refine below_set ?_ GE140.out) | exact HB.out)) hb)
                clear HO147
                clear BK140
                clear HB
                have HO147 := n0_
                have BK140 := n1_
                have HB := n2_
                clear n0_ n1_ n2_
                (try clear hb)
                (try clear hb2)
                (try clear hk)
                (try clear hi)
                refine hK.out _ _ ⟨(blk_cell BK140.out 0).trans rfl, (blk_cell BK140.out 1).trans rfl, (blk_cell BK140.out 2).trans rfl, (blk_cell BK140.out 3).trans rfl, (blk_cell BK140.out 4).trans rfl, (blk_cell BK140.out 5).trans rfl, (blk_cell BK140.out 6).trans rfl, (blk_cell BK140.out 7).trans rfl, (blk_cell BK140.out 8).trans rfl⟩ (fun hHeld => ?_)
                clear hK K
                refine norm_ (a' := ?_) ?_ ?_
                rotate_left
                · show Act.put _ (some 24) _ = _
                  simp only [Act.put, List.setIfInBounds_toArray, List.set_cons_zero, List.set_cons_succ, i64_w, i32_w]
                  rfl
                refine one_ (i := 5) (N := some 26) #[true, true, true, true, true, true, false, false, false, false, false, false, false] rfl rfl (one_of HT_.out (by kernel_rfl)) (by decide) (fun K hK => ?_)
                refine goes_ Tryz.func9 (by kernel_rfl) rfl #[.slice A0 l0.length c0] (by rfl) rfl rfl (by (try simp only [List.map_toArray, List.map_cons, List.map_nil]); first | done | rfl | (simp only [List.length_drop, List.length_take]; rfl)) ?_
                with_reducible refine (spec_LsSteps.calls kj12 _ _ l0 t149 _ ?side1 ?side2 A24.out).mono ?_
                (case side1 => repeat (first | exact (Kd.C_below HR0.out HB.out) | (with_reducible refine Kd.C_alloc ?_ _) | (with_reducible refine Kd.C_drewN ?_ _) | (with_reducible refine Kd.C_drew ?_)))
                (case side2 => exact HC0.out)
                rintro e w42 ⟨v150, rfl, ho0, hb⟩
                refine ⟨_, rfl, ?_⟩
                have n0_ := Aside0.mk (Kd.S_elder' (by (with_reducible repeat (first | apply Kd.S_alloc | apply Kd.S_drewN | apply Kd.S_drew)); exact HO147.out) (Kd.S_base ho0) hb)
                have n1_ := Aside0.mk (Kd.S_lower (Kd.S_new' ho0 (Kd.S_lt (by (with_reducible repeat (first | apply Kd.S_alloc | apply Kd.S_drewN | apply Kd.S_drew)); exact HO147.out))) (below_size (by repeat (first | (with_reducible first | exact HB.out | apply below_alloc | apply pw_below_drewN | apply below_drew1 | refine below_set ?_ GE140.out) | exact HB.out))))
                have n2_ := Aside0.mk (blk_below (g := gb140) (o := .cells #[.int .i64 a1_0, .string a1_1, .string a1_2, .string a1_3, .string a1_4, .string a1_5, .string a1_6, .string a1_7, .string a1_8] 24 (0, 0)) (by (with_reducible repeat (first | refine blk_drewN ?_ _ | refine blk_drew ?_ | refine blk_alloc ?_ _)); exact BK140.out) hb)
                have n3_ := Aside0.mk (below_step (by repeat (first | (with_reducible first | exact HB.out | apply below_alloc | apply pw_below_drewN | apply below_drew1 | refine below_set ?_ GE140.out) | exact HB.out)) hb)
                clear HO147
                clear BK140
                clear HB
                have HO147 := n0_
                have HO151 := n1_
                have BK140 := n2_
                have HB := n3_
                clear n0_ n1_ n2_ n3_
                (try clear hb)
                (try clear hb2)
                (try clear hk)
                (try clear hi)
                (try clear ho0)
                refine hK.out _ _ ⟨(blk_cell BK140.out 0).trans rfl, (blk_cell BK140.out 1).trans rfl, (blk_cell BK140.out 2).trans rfl, (blk_cell BK140.out 3).trans rfl, (blk_cell BK140.out 4).trans rfl, (blk_cell BK140.out 5).trans rfl, (blk_cell BK140.out 6).trans rfl, (blk_cell BK140.out 7).trans rfl, (blk_cell BK140.out 8).trans rfl⟩ (fun hHeld => ?_)
                clear hK K
                refine norm_ (a' := ?_) ?_ ?_
                rotate_left
                · show Act.put _ (some 26) _ = _
                  simp only [Act.put, List.setIfInBounds_toArray, List.set_cons_zero, List.set_cons_succ, i64_w, i32_w]
                  rfl
                refine one_ (i := 6) (N := some 27) #[true, true, true, true, true, true, true, false, false, false, false, false, false] rfl rfl (one_of HT_.out (by kernel_rfl)) (by decide) (fun K hK => ?_)
                refine goes_ Tryz.func11 (by kernel_rfl) rfl #[.int .i64 10] (by rfl) rfl rfl (by (try simp only [List.map_toArray, List.map_cons, List.map_nil]); first | done | rfl | (simp only [List.length_drop, List.length_take]; rfl)) ?_
                with_reducible refine (impl_ListNamed.calls 10 t152 t153 t154 t155 t156 t157 t158 t159 t160 _ A25.out).mono ?_
                rintro e w43 ⟨rfl, hb⟩
                refine ⟨_, rfl, ?_⟩
                have n0_ := Aside0.mk (Kd.S_below (by (with_reducible repeat (first | apply Kd.S_alloc | apply Kd.S_drewN | apply Kd.S_drew)); exact HO147.out) hb)
                have n1_ := Aside0.mk (Kd.S_below (by (with_reducible repeat (first | apply Kd.S_alloc | apply Kd.S_drewN | apply Kd.S_drew)); exact HO151.out) hb)
                have n2_ := Aside0.mk (blk_below (g := gb140) (o := .cells #[.int .i64 a1_0, .string a1_1, .string a1_2, .string a1_3, .string a1_4, .string a1_5, .string a1_6, .string a1_7, .string a1_8] 24 (0, 0)) (by (with_reducible repeat (first | refine blk_drewN ?_ _ | refine blk_drew ?_ | refine blk_alloc ?_ _)); exact BK140.out) hb)
                have n3_ := Aside0.mk (below_step (by repeat (first | (with_reducible first | exact HB.out | apply below_alloc | apply pw_below_drewN | apply below_drew1 | refine below_set ?_ GE140.out) | exact HB.out)) hb)
                clear HO147
                clear HO151
                clear BK140
                clear HB
                have HO147 := n0_
                have HO151 := n1_
                have BK140 := n2_
                have HB := n3_
                clear n0_ n1_ n2_ n3_
                (try clear hb)
                (try clear hb2)
                (try clear hk)
                (try clear hi)
                obtain ⟨Ao44, co44, eo44⟩ := Kd.S_slice HO151.out
                (first | subst eo44 | (injection eo44 with f1_ f2_ f3_; have f4_ := f1_.symm; have f5_ := f3_.symm; clear f1_ f2_ f3_; subst f4_; subst f5_))
                refine hK.out _ _ ⟨(blk_cell BK140.out 0).trans rfl, (blk_cell BK140.out 1).trans rfl, (blk_cell BK140.out 2).trans rfl, (blk_cell BK140.out 3).trans rfl, (blk_cell BK140.out 4).trans rfl, (blk_cell BK140.out 5).trans rfl, (blk_cell BK140.out 6).trans rfl, (blk_cell BK140.out 7).trans rfl, (blk_cell BK140.out 8).trans rfl⟩ (fun hHeld => ?_)
                clear hK K
                refine norm_ (a' := ?_) ?_ ?_
                rotate_left
                · show Act.put _ (some 27) _ = _
                  simp only [Act.put, List.setIfInBounds_toArray, List.set_cons_zero, List.set_cons_succ, i64_w, i32_w]
                  rfl
                refine one_ (i := 7) (N := some 28) #[true, true, true, true, true, true, true, true, false, false, false, false, false] rfl rfl (one_of HT_.out (by kernel_rfl)) (by decide) (fun K hK => ?_)
                refine goes_ Tryz.func10 (by kernel_rfl) rfl #[.slice Ao44 t149.length co44, .agg #[.int .i64 t152, .string t153, .string t154, .string t155, .string t156, .string t157, .string t158, .string t159, .string t160]] (by rfl) rfl rfl (by (try simp only [List.map_toArray, List.map_cons, List.map_nil]); first | done | rfl | (simp only [List.length_drop, List.length_take]; rfl)) ?_
                with_reducible refine (impl_ListRender.calls _ _ t149 t152 t153 t154 t155 t156 t157 t158 t159 t160 t161 _ ?side1 ?side2 A26.out).mono ?_
                (case side1 => repeat (first | exact (Kd.S_reads' HO151.out).2.2 | (with_reducible refine Kd.C_alloc ?_ _) | (with_reducible refine Kd.C_drewN ?_ _) | (with_reducible refine Kd.C_drew ?_)))
                (case side2 => exact (Kd.S_reads' HO151.out).2.1)
                rintro e w45 ⟨rfl, hb⟩
                refine ⟨_, rfl, ?_⟩
                have n0_ := Aside0.mk (Kd.S_below (by (with_reducible repeat (first | apply Kd.S_alloc | apply Kd.S_drewN | apply Kd.S_drew)); exact HO147.out) hb)
                have n1_ := Aside0.mk (Kd.S_below (by (with_reducible repeat (first | apply Kd.S_alloc | apply Kd.S_drewN | apply Kd.S_drew)); exact HO151.out) hb)
                have n2_ := Aside0.mk (blk_below (g := gb140) (o := .cells #[.int .i64 a1_0, .string a1_1, .string a1_2, .string a1_3, .string a1_4, .string a1_5, .string a1_6, .string a1_7, .string a1_8] 24 (0, 0)) (by (with_reducible repeat (first | refine blk_drewN ?_ _ | refine blk_drew ?_ | refine blk_alloc ?_ _)); exact BK140.out) hb)
                have n3_ := Aside0.mk (below_step (by repeat (first | (with_reducible first | exact HB.out | apply below_alloc | apply pw_below_drewN | apply below_drew1 | refine below_set ?_ GE140.out) | exact HB.out)) hb)
                clear HO147
                clear HO151
                clear BK140
                clear HB
                have HO147 := n0_
                have HO151 := n1_
                have BK140 := n2_
                have HB := n3_
                clear n0_ n1_ n2_ n3_
                (try clear hb)
                (try clear hb2)
                (try clear hk)
                (try clear hi)
                refine hK.out _ _ ⟨(blk_cell BK140.out 0).trans rfl, (blk_cell BK140.out 1).trans rfl, (blk_cell BK140.out 2).trans rfl, (blk_cell BK140.out 3).trans rfl, (blk_cell BK140.out 4).trans rfl, (blk_cell BK140.out 5).trans rfl, (blk_cell BK140.out 6).trans rfl, (blk_cell BK140.out 7).trans rfl, (blk_cell BK140.out 8).trans rfl⟩ (fun hHeld => ?_)
                clear hK K
                refine norm_ (a' := ?_) ?_ ?_
                rotate_left
                · show Act.put _ (some 28) _ = _
                  simp only [Act.put, List.setIfInBounds_toArray, List.set_cons_zero, List.set_cons_succ, i64_w, i32_w]
                  rfl
                refine pure_ (i := 8) (N := some 29) (v := ?_) (a' := ?_) #[true, true, true, true, true, true, true, true, true, false, false, false, false] rfl rfl (any_of HT_.out (by kernel_rfl)) (fun _ _ _ h => h) (Or.inl ⟨by rfl, ?_⟩) ?_ ?_
                rotate_left
                · intro w'
                  go_simp
                  with_reducible rfl
                rotate_left
                · simp only [Act.put, List.setIfInBounds_toArray, List.set_cons_zero, List.set_cons_succ, i64_w, i32_w]
                  rfl
                refine pure_ (i := 9) (N := some 30) (v := ?_) (a' := ?_) #[true, true, true, true, true, true, true, true, true, true, false, false, false] rfl rfl (any_of HT_.out (by kernel_rfl)) (fun _ _ _ h => h) (Or.inl ⟨by rfl, ?_⟩) ?_ ?_
                rotate_left
                · intro w'
                  go_simp
                  with_reducible rfl
                rotate_left
                · simp only [Act.put, List.setIfInBounds_toArray, List.set_cons_zero, List.set_cons_succ, i64_w, i32_w]
                  rfl
                refine pure_ (i := 10) (N := some 31) (v := undef) (a' := ?_) #[true, true, true, true, true, true, true, true, true, true, true, false, false] rfl rfl (any_of HT_.out (by kernel_rfl)) (fun _ _ _ h => h) (Or.inr ⟨by rfl, rfl⟩) ?_ ?_
                rotate_left
                · simp only [Act.put, List.setIfInBounds_toArray, List.set_cons_zero, List.set_cons_succ, i64_w, i32_w]
                  rfl
                refine pure_ (i := 11) (N := some 32) (v := ?_) (a' := ?_) #[true, true, true, true, true, true, true, true, true, true, true, true, false] rfl rfl (any_of HT_.out (by kernel_rfl)) (fun _ _ _ h => h) (Or.inl ⟨by rfl, ?_⟩) ?_ ?_
                rotate_left
                · intro w'
                  go_simp
                  with_reducible rfl
                rotate_left
                · simp only [Act.put, List.setIfInBounds_toArray, List.set_cons_zero, List.set_cons_succ, i64_w, i32_w]
                  rfl
                refine pure_ (i := 12) (N := some 4) (v := ?_) (a' := ?_) #[true, true, true, true, true, true, true, true, true, true, true, true, true] rfl rfl (any_of HT_.out (by kernel_rfl)) (fun _ _ _ h => h) (Or.inl ⟨by rfl, ?_⟩) ?_ ?_
                rotate_left
                · intro w'
                  go_simp
                  with_reducible rfl
                rotate_left
                · simp only [Act.put, List.setIfInBounds_toArray, List.set_cons_zero, List.set_cons_succ, i64_w, i32_w]
                  rfl
                refine done_ (done_of HT_.out (by kernel_rfl)) ?_
                try go_wp2
                go_ret
                exact ⟨by first | rfl | (simp [errW_none, errW_some] <;> rfl) | (simp [*, errW_none, errW_some] <;> rfl), by repeat (first | (with_reducible first | exact HB.out | apply below_alloc | apply pw_below_drewN | apply below_drew1 | refine below_set ?_ GE140.out) | exact HB.out)⟩

def laws_FnListMarkdown.Pure : Prop := ∀ (l0 : List (S34)) (a1_0 : Int) (a1_1 : ByteArray) (a1_2 : ByteArray) (a1_3 : ByteArray) (a1_4 : ByteArray) (a1_5 : ByteArray) (a1_6 : ByteArray) (a1_7 : ByteArray) (a1_8 : ByteArray), (l0.length * 24 ≤ 140737488351232 ∧ l0.length ≤ maxLen ∧ ∀ yl0 ∈ l0, (yl0.f0.size ≤ 140737488351232 ∧ ((Lit.int .i64 yl0.f1).wf = true))) → (Lit.int .i64 a1_0).wf = true → a1_1.size ≤ 140737488351232 → a1_2.size ≤ 140737488351232 → a1_3.size ≤ 140737488351232 → a1_4.size ≤ 140737488351232 → a1_5.size ≤ 140737488351232 → a1_6.size ≤ 140737488351232 → a1_7.size ≤ 140737488351232 → a1_8.size ≤ 140737488351232 → ∃ k, laws_FnListMarkdown.f k l0 a1_0 a1_1 a1_2 a1_3 a1_4 a1_5 a1_6 a1_7 a1_8 = some true

end Go.Proofs.YtmakcmggicedfaaGreatDoor.PFnListMarkdown
