-- Written by hprint.py, a program of this session
import Derived.Test.YtedknmaaaaomoaaPFnMarkdownSeparatorx0
import Derived.Test.YtedknmaaaaomoaaPFnMarkdownSeparatorx1
namespace Go.Proofs.Ytedknmaaaaomoaa.PFnMarkdownSeparator
open Go.RowKit Go.Proofs.Ytedknmaaaaomoaa.Hand Go.Proofs.YtedknmaaaaomoaaW.PrintWords Go.Proofs.YtedknmaaaaomoaaW.PrintLast Go.Proofs.YtedknmaaaaomoaaW.PrintMore
attribute [local go_sem] max2_int min2_int max_two min_two max_three min_three max_four min_four   -- for this text's walks alone
set_option linter.unusedVariables false
set_option linter.unusedSimpArgs false

/-! ### laws_FnMarkdownSeparator: function 4 -/
mutual
def laws_FnMarkdownSeparator.j0 : Nat → Bool → List ByteArray → Int → Bool → List Int → List Int → Int → Int → Option (Bool)
  | 0, _, _, _, _, _, _, _, _ => none
  | k + 1, x37, x113000, x113001, x113002, x113003, x113004, x113005, x113006 => if x37 = true then (some true) else (if x113005 > 0 then (laws_FnMarkdownSeparator.j1 k (⟨#[124]⟩ : ByteArray) x113002 x113000 x113001 x113002 x113003 x113004 x113005 x113006) else (laws_FnMarkdownSeparator.j1 k (⟨#[124]⟩ : ByteArray) false x113000 x113001 x113002 x113003 x113004 x113005 x113006))
def laws_FnMarkdownSeparator.j1 : Nat → ByteArray → Bool → List ByteArray → Int → Bool → List Int → List Int → Int → Int → Option (Bool)
  | 0, _, _, _, _, _, _, _, _, _ => none
  | k + 1, x3, x44, x113000, x113001, x113002, x113003, x113004, x113005, x113006 => if x44 = true then (if x3.size + 1 ≤ 9223372036854775807 then ((spec_Times.f k (⟨#[45]⟩ : ByteArray) x113006).bind fun t116 => (if (x3 ++ (⟨#[32]⟩ : ByteArray)).size + t116.size ≤ 9223372036854775807 then (if ((x3 ++ (⟨#[32]⟩ : ByteArray)) ++ t116).size + 2 ≤ 9223372036854775807 then (laws_FnMarkdownSeparator.j2 k (((x3 ++ (⟨#[32]⟩ : ByteArray)) ++ t116) ++ (⟨#[58, 124]⟩ : ByteArray)) x113000 x113001 x113002 x113003 x113004 x113005 x113006) else (none)) else (none))) else (none)) else (if x113005 > 0 then (if x3.size + 6 ≤ 9223372036854775807 then (laws_FnMarkdownSeparator.j2 k (x3 ++ (⟨#[32, 45, 45, 45, 58, 124]⟩ : ByteArray)) x113000 x113001 x113002 x113003 x113004 x113005 x113006) else (none)) else (laws_FnMarkdownSeparator.j2 k x3 x113000 x113001 x113002 x113003 x113004 x113005 x113006))
def laws_FnMarkdownSeparator.j2 : Nat → ByteArray → List ByteArray → Int → Bool → List Int → List Int → Int → Int → Option (Bool)
  | 0, _, _, _, _, _, _, _, _ => none
  | k + 1, x3, x113000, x113001, x113002, x113003, x113004, x113005, x113006 => laws_FnMarkdownSeparator.l0 k x3 0 x113000 x113001 x113002 x113003 x113004 x113005 x113006
def laws_FnMarkdownSeparator.l0 : Nat → ByteArray → Int → List ByteArray → Int → Bool → List Int → List Int → Int → Int → Option (Bool)
  | 0, _, _, _, _, _, _, _, _, _ => none
  | k + 1, x3, x4, x113000, x113001, x113002, x113003, x113004, x113005, x113006 => if x4 < x113001 then (if x113002 = true then ((spec_At.f x113004 x4).bind fun t118 => ((spec_At.f x113003 x4).bind fun t119 => ((impl_TextAlignMarkdown.f k t118 (([t119] : List Int))).bind fun t123 => (if x3.size + t123.size ≤ 9223372036854775807 then (if (x3 ++ t123).size + 1 ≤ 9223372036854775807 then (laws_FnMarkdownSeparator.l0 k ((x3 ++ t123) ++ (⟨#[124]⟩ : ByteArray)) (wrap64 (x4 + 1)) x113000 x113001 x113002 x113003 x113004 x113005 x113006) else (none)) else (none))))) else ((spec_At.f x113004 x4).bind fun t124 => ((impl_TextAlignMarkdown.f k t124 ([] : List Int)).bind fun t125 => (if x3.size + t125.size ≤ 9223372036854775807 then (if (x3 ++ t125).size + 1 ≤ 9223372036854775807 then (laws_FnMarkdownSeparator.l0 k ((x3 ++ t125) ++ (⟨#[124]⟩ : ByteArray)) (wrap64 (x4 + 1)) x113000 x113001 x113002 x113003 x113004 x113005 x113006) else (none)) else (none))))) else ((impl_MarkdownSeparator.f x113000 x113001 x113002 x113003 x113004 x113005 x113006).bind fun t117 => (some (t117.toList == x3.toList)))
end
def laws_FnMarkdownSeparator.f (k : Nat) (l0_0 : List ByteArray) (a0_1 : Int) (a0_2 : Bool) (l0_3 : List Int) (l0_4 : List Int) (a0_5 : Int) (a0_6 : Int) : Option (Bool) := (laws_zzFits21.f k l0_0 a0_1 a0_2 l0_3 l0_4 a0_5 a0_6).bind fun t113 => (if t113 = true then (if a0_1 < 1 then (laws_FnMarkdownSeparator.j0 k true l0_0 a0_1 a0_2 l0_3 l0_4 a0_5 a0_6) else (if a0_1 > 60 then (laws_FnMarkdownSeparator.j0 k true l0_0 a0_1 a0_2 l0_3 l0_4 a0_5 a0_6) else ((laws_fits.f k l0_3 60 0 200).bind fun t114 => (if t114 = true then (if a0_6 < 0 then (laws_FnMarkdownSeparator.j0 k true l0_0 a0_1 a0_2 l0_3 l0_4 a0_5 a0_6) else (if a0_6 > 200 then (laws_FnMarkdownSeparator.j0 k true l0_0 a0_1 a0_2 l0_3 l0_4 a0_5 a0_6) else ((laws_fits.f k l0_4 60 0 5).bind fun t115 => (laws_FnMarkdownSeparator.j0 k (!t115) l0_0 a0_1 a0_2 l0_3 l0_4 a0_5 a0_6)))) else (laws_FnMarkdownSeparator.j0 k true l0_0 a0_1 a0_2 l0_3 l0_4 a0_5 a0_6))))) else (some true))
theorem laws_FnMarkdownSeparator.mono_l : ∀ k, (∀ y0 y1 y2 y3 y4 y5 y6 y7, LeO (laws_FnMarkdownSeparator.j0 k y0 y1 y2 y3 y4 y5 y6 y7) (laws_FnMarkdownSeparator.j0 (k + 1) y0 y1 y2 y3 y4 y5 y6 y7)) ∧ (∀ y0 y1 y2 y3 y4 y5 y6 y7 y8, LeO (laws_FnMarkdownSeparator.j1 k y0 y1 y2 y3 y4 y5 y6 y7 y8) (laws_FnMarkdownSeparator.j1 (k + 1) y0 y1 y2 y3 y4 y5 y6 y7 y8)) ∧ (∀ y0 y1 y2 y3 y4 y5 y6 y7, LeO (laws_FnMarkdownSeparator.j2 k y0 y1 y2 y3 y4 y5 y6 y7) (laws_FnMarkdownSeparator.j2 (k + 1) y0 y1 y2 y3 y4 y5 y6 y7)) ∧ (∀ y0 y1 y2 y3 y4 y5 y6 y7 y8, LeO (laws_FnMarkdownSeparator.l0 k y0 y1 y2 y3 y4 y5 y6 y7 y8) (laws_FnMarkdownSeparator.l0 (k + 1) y0 y1 y2 y3 y4 y5 y6 y7 y8))
  | 0 => ⟨fun _ _ _ _ _ _ _ _ r h => by simp [laws_FnMarkdownSeparator.j0] at h, fun _ _ _ _ _ _ _ _ _ r h => by simp [laws_FnMarkdownSeparator.j1] at h, fun _ _ _ _ _ _ _ _ r h => by simp [laws_FnMarkdownSeparator.j2] at h, fun _ _ _ _ _ _ _ _ _ r h => by simp [laws_FnMarkdownSeparator.l0] at h⟩
  | k + 1 => by
    obtain ⟨ih0, ih1, ih2, ih3⟩ := laws_FnMarkdownSeparator.mono_l k
    refine ⟨?_, ?_, ?_, ?_⟩
    · intro y0 y1 y2 y3 y4 y5 y6 y7
      unfold laws_FnMarkdownSeparator.j0
      repeat' first
      | (with_reducible exact ih0 _ _ _ _ _ _ _ _)
      | (with_reducible exact ih1 _ _ _ _ _ _ _ _ _)
      | (with_reducible exact ih2 _ _ _ _ _ _ _ _)
      | (with_reducible exact ih3 _ _ _ _ _ _ _ _ _)
      | (with_reducible exact impl_TextAlignMarkdown.mono _ _ _)
      | (with_reducible exact laws_fits.mono _ _ _ _ _)
      | (with_reducible exact laws_zzFits21.mono _ _ _ _ _ _ _ _)
      | (with_reducible exact spec_Times.mono _ _ _)
      | (with_reducible exact LeO.refl _)
      | (with_reducible exact LeO.none _)
      | (with_reducible refine LeO.ite ?_ ?_)
      | (with_reducible refine LeO.bind ?_ (fun _ => ?_))
      | exact ih0 _ _ _ _ _ _ _ _
      | exact ih1 _ _ _ _ _ _ _ _ _
      | exact ih2 _ _ _ _ _ _ _ _
      | exact ih3 _ _ _ _ _ _ _ _ _
      | exact impl_TextAlignMarkdown.mono _ _ _
      | exact laws_fits.mono _ _ _ _ _
      | exact laws_zzFits21.mono _ _ _ _ _ _ _ _
      | exact spec_Times.mono _ _ _
      | exact LeO.none _
      | refine LeO.ite ?_ ?_
      | refine LeO.bind ?_ (fun _ => ?_)
    · intro y0 y1 y2 y3 y4 y5 y6 y7 y8
      unfold laws_FnMarkdownSeparator.j1
      repeat' first
      | (with_reducible exact ih0 _ _ _ _ _ _ _ _)
      | (with_reducible exact ih1 _ _ _ _ _ _ _ _ _)
      | (with_reducible exact ih2 _ _ _ _ _ _ _ _)
      | (with_reducible exact ih3 _ _ _ _ _ _ _ _ _)
      | (with_reducible exact impl_TextAlignMarkdown.mono _ _ _)
      | (with_reducible exact laws_fits.mono _ _ _ _ _)
      | (with_reducible exact laws_zzFits21.mono _ _ _ _ _ _ _ _)
      | (with_reducible exact spec_Times.mono _ _ _)
      | (with_reducible exact LeO.refl _)
      | (with_reducible exact LeO.none _)
      | (with_reducible refine LeO.ite ?_ ?_)
      | (with_reducible refine LeO.bind ?_ (fun _ => ?_))
      | exact ih0 _ _ _ _ _ _ _ _
      | exact ih1 _ _ _ _ _ _ _ _ _
      | exact ih2 _ _ _ _ _ _ _ _
      | exact ih3 _ _ _ _ _ _ _ _ _
      | exact impl_TextAlignMarkdown.mono _ _ _
      | exact laws_fits.mono _ _ _ _ _
      | exact laws_zzFits21.mono _ _ _ _ _ _ _ _
      | exact spec_Times.mono _ _ _
      | exact LeO.none _
      | refine LeO.ite ?_ ?_
      | refine LeO.bind ?_ (fun _ => ?_)
    · intro y0 y1 y2 y3 y4 y5 y6 y7
      unfold laws_FnMarkdownSeparator.j2
      repeat' first
      | (with_reducible exact ih0 _ _ _ _ _ _ _ _)
      | (with_reducible exact ih1 _ _ _ _ _ _ _ _ _)
      | (with_reducible exact ih2 _ _ _ _ _ _ _ _)
      | (with_reducible exact ih3 _ _ _ _ _ _ _ _ _)
      | (with_reducible exact impl_TextAlignMarkdown.mono _ _ _)
      | (with_reducible exact laws_fits.mono _ _ _ _ _)
      | (with_reducible exact laws_zzFits21.mono _ _ _ _ _ _ _ _)
      | (with_reducible exact spec_Times.mono _ _ _)
      | (with_reducible exact LeO.refl _)
      | (with_reducible exact LeO.none _)
      | (with_reducible refine LeO.ite ?_ ?_)
      | (with_reducible refine LeO.bind ?_ (fun _ => ?_))
      | exact ih0 _ _ _ _ _ _ _ _
      | exact ih1 _ _ _ _ _ _ _ _ _
      | exact ih2 _ _ _ _ _ _ _ _
      | exact ih3 _ _ _ _ _ _ _ _ _
      | exact impl_TextAlignMarkdown.mono _ _ _
      | exact laws_fits.mono _ _ _ _ _
      | exact laws_zzFits21.mono _ _ _ _ _ _ _ _
      | exact spec_Times.mono _ _ _
      | exact LeO.none _
      | refine LeO.ite ?_ ?_
      | refine LeO.bind ?_ (fun _ => ?_)
    · intro y0 y1 y2 y3 y4 y5 y6 y7 y8
      unfold laws_FnMarkdownSeparator.l0
      repeat' first
      | (with_reducible exact ih0 _ _ _ _ _ _ _ _)
      | (with_reducible exact ih1 _ _ _ _ _ _ _ _ _)
      | (with_reducible exact ih2 _ _ _ _ _ _ _ _)
      | (with_reducible exact ih3 _ _ _ _ _ _ _ _ _)
      | (with_reducible exact impl_TextAlignMarkdown.mono _ _ _)
      | (with_reducible exact laws_fits.mono _ _ _ _ _)
      | (with_reducible exact laws_zzFits21.mono _ _ _ _ _ _ _ _)
      | (with_reducible exact spec_Times.mono _ _ _)
      | (with_reducible exact LeO.refl _)
      | (with_reducible exact LeO.none _)
      | (with_reducible refine LeO.ite ?_ ?_)
      | (with_reducible refine LeO.bind ?_ (fun _ => ?_))
      | exact ih0 _ _ _ _ _ _ _ _
      | exact ih1 _ _ _ _ _ _ _ _ _
      | exact ih2 _ _ _ _ _ _ _ _
      | exact ih3 _ _ _ _ _ _ _ _ _
      | exact impl_TextAlignMarkdown.mono _ _ _
      | exact laws_fits.mono _ _ _ _ _
      | exact laws_zzFits21.mono _ _ _ _ _ _ _ _
      | exact spec_Times.mono _ _ _
      | exact LeO.none _
      | refine LeO.ite ?_ ?_
      | refine LeO.bind ?_ (fun _ => ?_)
theorem laws_FnMarkdownSeparator.mono : ∀ a0 a1 a2 a3 a4 a5 a6 k, LeO (laws_FnMarkdownSeparator.f k a0 a1 a2 a3 a4 a5 a6) (laws_FnMarkdownSeparator.f (k + 1) a0 a1 a2 a3 a4 a5 a6) := by
  intro a0 a1 a2 a3 a4 a5 a6 k
  obtain ⟨ih0, ih1, ih2, ih3⟩ := laws_FnMarkdownSeparator.mono_l k
  unfold laws_FnMarkdownSeparator.f
  repeat' first
      | (with_reducible exact ih0 _ _ _ _ _ _ _ _)
      | (with_reducible exact ih1 _ _ _ _ _ _ _ _ _)
      | (with_reducible exact ih2 _ _ _ _ _ _ _ _)
      | (with_reducible exact ih3 _ _ _ _ _ _ _ _ _)
      | (with_reducible exact impl_TextAlignMarkdown.mono _ _ _)
      | (with_reducible exact laws_fits.mono _ _ _ _ _)
      | (with_reducible exact laws_zzFits21.mono _ _ _ _ _ _ _ _)
      | (with_reducible exact spec_Times.mono _ _ _)
      | (with_reducible exact LeO.refl _)
      | (with_reducible exact LeO.none _)
      | (with_reducible refine LeO.ite ?_ ?_)
      | (with_reducible refine LeO.bind ?_ (fun _ => ?_))
      | exact ih0 _ _ _ _ _ _ _ _
      | exact ih1 _ _ _ _ _ _ _ _ _
      | exact ih2 _ _ _ _ _ _ _ _
      | exact ih3 _ _ _ _ _ _ _ _ _
      | exact impl_TextAlignMarkdown.mono _ _ _
      | exact laws_fits.mono _ _ _ _ _
      | exact laws_zzFits21.mono _ _ _ _ _ _ _ _
      | exact spec_Times.mono _ _ _
      | exact LeO.none _
      | refine LeO.ite ?_ ?_
      | refine LeO.bind ?_ (fun _ => ?_)
def laws_FnMarkdownSeparator.T14 : Bool × List (List Nat × List Nat) := (true, [([], []), ([], []), ([1], [1]), ([], []), ([2, 3], [2, 3]), ([], []), ([5], [5]), ([], []), ([6, 7, 4], [6, 7]), ([8], [8]), ([4, 9, 8], [4, 9]), ([0, 10], [0, 10]), ([11], [11]), ([12, 10, 0, 1, 2, 3, 4, 5, 6, 7, 8, 9, 10, 11, 12], [0, 12])])
def laws_FnMarkdownSeparator.B14 : List Nat := [0, 0, 2, 0, 14, 0, 32, 0, 254, 510, 1022, 2047, 4095, 8191]
theorem laws_FnMarkdownSeparator.tab14 : rtab .any (opsOf Try.f4 14) = laws_FnMarkdownSeparator.T14 := by kernel_rfl
theorem laws_FnMarkdownSeparator.bits14 : waitsOk laws_FnMarkdownSeparator.T14.2 laws_FnMarkdownSeparator.B14 = true := by kernel_rfl
set_option maxHeartbeats 8000000 in
set_option maxRecDepth 100000 in
theorem laws_FnMarkdownSeparator.calls (k : Nat) (A0_0 : Option Addr) (c0_0 : Nat) (l0_0 : List ByteArray) (a0_1 : Int) (a0_2 : Bool) (A0_3 : Option Addr) (c0_3 : Nat) (l0_3 : List Int) (A0_4 : Option Addr) (c0_4 : Nat) (l0_4 : List Int) (a0_5 : Int) (a0_6 : Int) (r : Bool) (w : World) (hr0_0 : Kd.C Kd.string w A0_0 l0_0.length l0_0) (hc0_0 : l0_0.length ≤ c0_0) (hr0_3 : Kd.C (Kd.int .i64) w A0_3 l0_3.length l0_3) (hc0_3 : l0_3.length ≤ c0_3) (hr0_4 : Kd.C (Kd.int .i64) w A0_4 l0_4.length l0_4) (hc0_4 : l0_4.length ≤ c0_4) (h : laws_FnMarkdownSeparator.f k l0_0 a0_1 a0_2 l0_3 l0_4 a0_5 a0_6 = some r) :
    Calls Try.prog 4 #[.agg #[.slice A0_0 l0_0.length c0_0, .int .i64 a0_1, .bool a0_2, .slice A0_3 l0_3.length c0_3, .slice A0_4 l0_4.length c0_4, .int .i64 a0_5, .int .i64 a0_6]] w fun e w' => e = .returned (.bool r) ∧ Below w.heap.size w w' := by
  have hu29 := Try.underlying29
  have HR0_0 := Aside0.mk hr0_0
  have HC0_0 := Aside0.mk hc0_0
  clear hr0_0 hc0_0
  have HR0_3 := Aside0.mk hr0_3
  have HC0_3 := Aside0.mk hc0_3
  clear hr0_3 hc0_3
  have HR0_4 := Aside0.mk hr0_4
  have HC0_4 := Aside0.mk hc0_4
  clear hr0_4 hc0_4
  have HB := Aside0.mk (Below.refl w.heap.size w)
  have H : ((laws_zzFits21.f k l0_0 a0_1 a0_2 l0_3 l0_4 a0_5 a0_6).bind fun t113 => (if t113 = true then (if a0_1 < 1 then (laws_FnMarkdownSeparator.j0 k true l0_0 a0_1 a0_2 l0_3 l0_4 a0_5 a0_6) else (if a0_1 > 60 then (laws_FnMarkdownSeparator.j0 k true l0_0 a0_1 a0_2 l0_3 l0_4 a0_5 a0_6) else ((laws_fits.f k l0_3 60 0 200).bind fun t114 => (if t114 = true then (if a0_6 < 0 then (laws_FnMarkdownSeparator.j0 k true l0_0 a0_1 a0_2 l0_3 l0_4 a0_5 a0_6) else (if a0_6 > 200 then (laws_FnMarkdownSeparator.j0 k true l0_0 a0_1 a0_2 l0_3 l0_4 a0_5 a0_6) else ((laws_fits.f k l0_4 60 0 5).bind fun t115 => (laws_FnMarkdownSeparator.j0 k (!t115) l0_0 a0_1 a0_2 l0_3 l0_4 a0_5 a0_6)))) else (laws_FnMarkdownSeparator.j0 k true l0_0 a0_1 a0_2 l0_3 l0_4 a0_5 a0_6))))) else (some true))) = some r := h
  clear h
  replace H := Option.bind_eq_some_iff.mp H
  obtain ⟨t113, A20, H⟩ := H
  replace H : (if t113 = true then (if a0_1 < 1 then (laws_FnMarkdownSeparator.j0 k true l0_0 a0_1 a0_2 l0_3 l0_4 a0_5 a0_6) else (if a0_1 > 60 then (laws_FnMarkdownSeparator.j0 k true l0_0 a0_1 a0_2 l0_3 l0_4 a0_5 a0_6) else ((laws_fits.f k l0_3 60 0 200).bind fun t114 => (if t114 = true then (if a0_6 < 0 then (laws_FnMarkdownSeparator.j0 k true l0_0 a0_1 a0_2 l0_3 l0_4 a0_5 a0_6) else (if a0_6 > 200 then (laws_FnMarkdownSeparator.j0 k true l0_0 a0_1 a0_2 l0_3 l0_4 a0_5 a0_6) else ((laws_fits.f k l0_4 60 0 5).bind fun t115 => (laws_FnMarkdownSeparator.j0 k (!t115) l0_0 a0_1 a0_2 l0_3 l0_4 a0_5 a0_6)))) else (laws_FnMarkdownSeparator.j0 k true l0_0 a0_1 a0_2 l0_3 l0_4 a0_5 a0_6))))) else (some true)) = some r := H
  have A2 := Aside0.mk A20
  clear A20
  by_cases c3 : t113 = true
  · subst c3
    have H1 : (if a0_1 < 1 then (laws_FnMarkdownSeparator.j0 k true l0_0 a0_1 a0_2 l0_3 l0_4 a0_5 a0_6) else (if a0_1 > 60 then (laws_FnMarkdownSeparator.j0 k true l0_0 a0_1 a0_2 l0_3 l0_4 a0_5 a0_6) else ((laws_fits.f k l0_3 60 0 200).bind fun t114 => (if t114 = true then (if a0_6 < 0 then (laws_FnMarkdownSeparator.j0 k true l0_0 a0_1 a0_2 l0_3 l0_4 a0_5 a0_6) else (if a0_6 > 200 then (laws_FnMarkdownSeparator.j0 k true l0_0 a0_1 a0_2 l0_3 l0_4 a0_5 a0_6) else ((laws_fits.f k l0_4 60 0 5).bind fun t115 => (laws_FnMarkdownSeparator.j0 k (!t115) l0_0 a0_1 a0_2 l0_3 l0_4 a0_5 a0_6)))) else (laws_FnMarkdownSeparator.j0 k true l0_0 a0_1 a0_2 l0_3 l0_4 a0_5 a0_6))))) = some r := by rw [if_pos rfl] at H; exact H
    clear H
    have H := H1
    clear H1
    have HC4 := Aside0.mk H
    clear H
    go_enter Try.func4, Try.ntmps4
    go_upto_region 3 with (first | ((with_reducible refine gate_dst (N := 1) rfl ?_); refine box_event ?hg (N := 1) ?hd (cs := #[.slice A0_0 l0_0.length c0_0, .int .i64 a0_1, .bool a0_2, .slice A0_3 l0_3.length c0_3, .slice A0_4 l0_4.length c0_4, .int .i64 a0_5, .int .i64 a0_6]) (t := 29) ?hr ?_; (case hd => rfl); (case hg => rfl); (case hr => first | (go_simp; done) | (go_simp; rfl)); intro gb112 hg w5 hbox hb; have n0_ := Aside0.mk (below_step (by repeat (first | (with_reducible first | exact HB.out | apply below_alloc | apply pw_below_drewN | apply below_drew1) | exact HB.out)) hb); have n1_ := Aside0.mk (hbox); have n2_ := Aside0.mk ((by rw [hg]; exact (below_size (by repeat (first | (with_reducible first | exact HB.out | apply below_alloc | apply pw_below_drewN | apply below_drew1) | exact HB.out))) : w.heap.size ≤ gb112)); have n3_ := Aside0.mk ((by rw [hg]; exact (below_size (by repeat (first | (with_reducible first | exact HB.out | apply below_alloc | apply pw_below_drewN | apply below_drew1) | exact HB.out))) : w.heap.size ≤ gb112)); clear HB; have HB := n0_; have BK112 := n1_; have GW112 := n2_; have GE112 := n3_; clear n0_ n1_ n2_ n3_; clear hb hbox hg; have hcz6_0 : w5.cell? ⟨gb112, 0, none⟩ = some (.slice A0_0 l0_0.length c0_0) := (blk_cell BK112.out 0).trans rfl; have hcz6_1 : w5.cell? ⟨gb112, 1, none⟩ = some (.int .i64 a0_1) := (blk_cell BK112.out 1).trans rfl; have hcz6_2 : w5.cell? ⟨gb112, 2, none⟩ = some (.bool a0_2) := (blk_cell BK112.out 2).trans rfl; have hcz6_3 : w5.cell? ⟨gb112, 3, none⟩ = some (.slice A0_3 l0_3.length c0_3) := (blk_cell BK112.out 3).trans rfl; have hcz6_4 : w5.cell? ⟨gb112, 4, none⟩ = some (.slice A0_4 l0_4.length c0_4) := (blk_cell BK112.out 4).trans rfl; have hcz6_5 : w5.cell? ⟨gb112, 5, none⟩ = some (.int .i64 a0_5) := (blk_cell BK112.out 5).trans rfl; have hcz6_6 : w5.cell? ⟨gb112, 6, none⟩ = some (.int .i64 a0_6) := (blk_cell BK112.out 6).trans rfl; have hfz6_0 := blk_frozen BK112.out 0; have hfz6_1 := blk_frozen BK112.out 1; have hfz6_2 := blk_frozen BK112.out 2; have hfz6_3 := blk_frozen BK112.out 3; have hfz6_4 := blk_frozen BK112.out 4; have hfz6_5 := blk_frozen BK112.out 5; have hfz6_6 := blk_frozen BK112.out 6) | ((with_reducible refine gate_callee (f := 8) rfl ?_); refine goesL_ (some 6) rfl rfl Try.func8 (by kernel_rfl) rfl #[.agg #[.slice A0_0 l0_0.length c0_0, .int .i64 a0_1, .bool a0_2, .slice A0_3 l0_3.length c0_3, .slice A0_4 l0_4.length c0_4, .int .i64 a0_5, .int .i64 a0_6]] rfl (by (try simp only [List.map_toArray, List.map_cons, List.map_nil]); first | done | rfl | (simp only [List.length_drop, List.length_take]; rfl)) ?_; (with_reducible refine (laws_zzFits21.calls k _ _ l0_0 a0_1 a0_2 _ _ l0_3 _ _ l0_4 a0_5 a0_6 true _ ?side1 ?side2 ?side3 ?side4 ?side5 ?side6 A2.out).mono ?_); (case side1 => repeat (first | exact (Kd.C_below HR0_0.out HB.out) | (with_reducible refine Kd.C_alloc ?_ _) | (with_reducible refine Kd.C_drewN ?_ _) | (with_reducible refine Kd.C_drew ?_))); (case side2 => exact HC0_0.out); (case side3 => repeat (first | exact (Kd.C_below HR0_3.out HB.out) | (with_reducible refine Kd.C_alloc ?_ _) | (with_reducible refine Kd.C_drewN ?_ _) | (with_reducible refine Kd.C_drew ?_))); (case side4 => exact HC0_3.out); (case side5 => repeat (first | exact (Kd.C_below HR0_4.out HB.out) | (with_reducible refine Kd.C_alloc ?_ _) | (with_reducible refine Kd.C_drewN ?_ _) | (with_reducible refine Kd.C_drew ?_))); (case side6 => exact HC0_4.out); rintro e w7 ⟨rfl, hb⟩; refine ⟨_, rfl, ?_⟩; have n0_ := Aside0.mk (blk_below (g := gb112) (o := .cells #[.slice A0_0 l0_0.length c0_0, .int .i64 a0_1, .bool a0_2, .slice A0_3 l0_3.length c0_3, .slice A0_4 l0_4.length c0_4, .int .i64 a0_5, .int .i64 a0_6] 29 (0, 0)) (by (with_reducible repeat (first | refine blk_drewN ?_ _ | refine blk_drew ?_ | refine blk_alloc ?_ _)); exact BK112.out) hb); have n1_ := Aside0.mk (below_step (by repeat (first | (with_reducible first | exact HB.out | apply below_alloc | apply pw_below_drewN | apply below_drew1 | refine below_set ?_ GE112.out) | exact HB.out)) hb); clear BK112; clear HB; have BK112 := n0_; have HB := n1_; clear n0_ n1_; (try clear hb); (try clear hb2); (try clear hk); (try clear hi)))
    (try simp only [Act.put, List.setIfInBounds_toArray, List.set_cons_zero, List.set_cons_succ])
    go_cut [37] (fun v37 wc => ∃ (kq : Nat) (x37_3 : Bool), v37 = .bool x37_3 ∧ Aside0 (laws_FnMarkdownSeparator.j0 kq x37_3 l0_0 a0_1 a0_2 l0_3 l0_4 a0_5 a0_6 = some r) ∧ Aside0 (kq ≤ k) ∧ Aside0 (wc.heap[gb112]? = some (.cells #[(.slice A0_0 l0_0.length c0_0), .int .i64 a0_1, .bool a0_2, (.slice A0_3 l0_3.length c0_3), (.slice A0_4 l0_4.length c0_4), .int .i64 a0_5, .int .i64 a0_6] 29 (0, 0))) ∧ Aside0 (Below w.heap.size w wc))
    case first =>
      have H := HC4.out
      clear HC4
      by_cases c8 : a0_1 < 1
      · rw [if_pos c8] at H
        have c8b0 : decide (a0_1 < 1) = true := decide_eq_true c8
        clear c8
        (first | rw [c8b0] | (simp only [i64_w, i32_w]; rw [c8b0]) | skip)
        have H' := Aside0.mk H
        clear H
        have hcz9_0 : w7.cell? ⟨gb112, 0, none⟩ = some (.slice A0_0 l0_0.length c0_0) := (blk_cell BK112.out 0).trans rfl
        have hcz9_1 : w7.cell? ⟨gb112, 1, none⟩ = some (.int .i64 a0_1) := (blk_cell BK112.out 1).trans rfl
        have hcz9_2 : w7.cell? ⟨gb112, 2, none⟩ = some (.bool a0_2) := (blk_cell BK112.out 2).trans rfl
        have hcz9_3 : w7.cell? ⟨gb112, 3, none⟩ = some (.slice A0_3 l0_3.length c0_3) := (blk_cell BK112.out 3).trans rfl
        have hcz9_4 : w7.cell? ⟨gb112, 4, none⟩ = some (.slice A0_4 l0_4.length c0_4) := (blk_cell BK112.out 4).trans rfl
        have hcz9_5 : w7.cell? ⟨gb112, 5, none⟩ = some (.int .i64 a0_5) := (blk_cell BK112.out 5).trans rfl
        have hcz9_6 : w7.cell? ⟨gb112, 6, none⟩ = some (.int .i64 a0_6) := (blk_cell BK112.out 6).trans rfl
        have hfz9_0 := blk_frozen BK112.out 0
        have hfz9_1 := blk_frozen BK112.out 1
        have hfz9_2 := blk_frozen BK112.out 2
        have hfz9_3 := blk_frozen BK112.out 3
        have hfz9_4 := blk_frozen BK112.out 4
        have hfz9_5 := blk_frozen BK112.out 5
        have hfz9_6 := blk_frozen BK112.out 6
        go_wp2
        go_meet
        case rel => exact ⟨_, (true), (by first | rfl | (simp; done) | (simp [*]; done)), H', ⟨by first | omega | exact Nat.le_refl _⟩, ⟨by (with_reducible repeat (first | refine blk_drewN ?_ _ | refine blk_drew ?_ | refine blk_alloc ?_ _)); exact BK112.out⟩, ⟨by repeat (first | (with_reducible first | exact HB.out | apply below_alloc | apply pw_below_drewN | apply below_drew1 | refine below_set ?_ GE112.out) | exact HB.out)⟩⟩
      · rw [if_neg c8] at H
        have c8b0 : decide (a0_1 < 1) = false := decide_eq_false c8
        clear c8
        (first | rw [c8b0] | (simp only [i64_w, i32_w]; rw [c8b0]) | skip)
        by_cases c10 : a0_1 > 60
        · rw [if_pos c10] at H
          have c10b0 : decide (60 < a0_1) = true := decide_eq_true c10
          clear c10
          have H' := Aside0.mk H
          clear H
          have hcz11_0 : w7.cell? ⟨gb112, 0, none⟩ = some (.slice A0_0 l0_0.length c0_0) := (blk_cell BK112.out 0).trans rfl
          have hcz11_1 : w7.cell? ⟨gb112, 1, none⟩ = some (.int .i64 a0_1) := (blk_cell BK112.out 1).trans rfl
          have hcz11_2 : w7.cell? ⟨gb112, 2, none⟩ = some (.bool a0_2) := (blk_cell BK112.out 2).trans rfl
          have hcz11_3 : w7.cell? ⟨gb112, 3, none⟩ = some (.slice A0_3 l0_3.length c0_3) := (blk_cell BK112.out 3).trans rfl
          have hcz11_4 : w7.cell? ⟨gb112, 4, none⟩ = some (.slice A0_4 l0_4.length c0_4) := (blk_cell BK112.out 4).trans rfl
          have hcz11_5 : w7.cell? ⟨gb112, 5, none⟩ = some (.int .i64 a0_5) := (blk_cell BK112.out 5).trans rfl
          have hcz11_6 : w7.cell? ⟨gb112, 6, none⟩ = some (.int .i64 a0_6) := (blk_cell BK112.out 6).trans rfl
          have hfz11_0 := blk_frozen BK112.out 0
          have hfz11_1 := blk_frozen BK112.out 1
          have hfz11_2 := blk_frozen BK112.out 2
          have hfz11_3 := blk_frozen BK112.out 3
          have hfz11_4 := blk_frozen BK112.out 4
          have hfz11_5 := blk_frozen BK112.out 5
          have hfz11_6 := blk_frozen BK112.out 6
          go_wp2
          go_meet
          case rel => exact ⟨_, (true), (by first | rfl | (simp; done) | (simp [*]; done)), H', ⟨by first | omega | exact Nat.le_refl _⟩, ⟨by (with_reducible repeat (first | refine blk_drewN ?_ _ | refine blk_drew ?_ | refine blk_alloc ?_ _)); exact BK112.out⟩, ⟨by repeat (first | (with_reducible first | exact HB.out | apply below_alloc | apply pw_below_drewN | apply below_drew1 | refine below_set ?_ GE112.out) | exact HB.out)⟩⟩
        · rw [if_neg c10] at H
          have c10b0 : decide (60 < a0_1) = false := decide_eq_false c10
          clear c10
          replace H := Option.bind_eq_some_iff.mp H
          obtain ⟨t114, A120, H⟩ := H
          replace H : (if t114 = true then (if a0_6 < 0 then (laws_FnMarkdownSeparator.j0 k true l0_0 a0_1 a0_2 l0_3 l0_4 a0_5 a0_6) else (if a0_6 > 200 then (laws_FnMarkdownSeparator.j0 k true l0_0 a0_1 a0_2 l0_3 l0_4 a0_5 a0_6) else ((laws_fits.f k l0_4 60 0 5).bind fun t115 => (laws_FnMarkdownSeparator.j0 k (!t115) l0_0 a0_1 a0_2 l0_3 l0_4 a0_5 a0_6)))) else (laws_FnMarkdownSeparator.j0 k true l0_0 a0_1 a0_2 l0_3 l0_4 a0_5 a0_6)) = some r := H
          have A12 := Aside0.mk A120
          clear A120
          by_cases c13 : t114 = true
          · subst c13
            have H1 : (if a0_6 < 0 then (laws_FnMarkdownSeparator.j0 k true l0_0 a0_1 a0_2 l0_3 l0_4 a0_5 a0_6) else (if a0_6 > 200 then (laws_FnMarkdownSeparator.j0 k true l0_0 a0_1 a0_2 l0_3 l0_4 a0_5 a0_6) else ((laws_fits.f k l0_4 60 0 5).bind fun t115 => (laws_FnMarkdownSeparator.j0 k (!t115) l0_0 a0_1 a0_2 l0_3 l0_4 a0_5 a0_6)))) = some r := by rw [if_pos rfl] at H; exact H
            clear H
            have H := H1
            clear H1
            by_cases c14 : a0_6 < 0
            · rw [if_pos c14] at H
              have c14b0 : decide (a0_6 < 0) = true := decide_eq_true c14
              clear c14
              have H' := Aside0.mk H
              clear H
              have hcz15_0 : w7.cell? ⟨gb112, 0, none⟩ = some (.slice A0_0 l0_0.length c0_0) := (blk_cell BK112.out 0).trans rfl
              have hcz15_1 : w7.cell? ⟨gb112, 1, none⟩ = some (.int .i64 a0_1) := (blk_cell BK112.out 1).trans rfl
              have hcz15_2 : w7.cell? ⟨gb112, 2, none⟩ = some (.bool a0_2) := (blk_cell BK112.out 2).trans rfl
              have hcz15_3 : w7.cell? ⟨gb112, 3, none⟩ = some (.slice A0_3 l0_3.length c0_3) := (blk_cell BK112.out 3).trans rfl
              have hcz15_4 : w7.cell? ⟨gb112, 4, none⟩ = some (.slice A0_4 l0_4.length c0_4) := (blk_cell BK112.out 4).trans rfl
              have hcz15_5 : w7.cell? ⟨gb112, 5, none⟩ = some (.int .i64 a0_5) := (blk_cell BK112.out 5).trans rfl
              have hcz15_6 : w7.cell? ⟨gb112, 6, none⟩ = some (.int .i64 a0_6) := (blk_cell BK112.out 6).trans rfl
              have hfz15_0 := blk_frozen BK112.out 0
              have hfz15_1 := blk_frozen BK112.out 1
              have hfz15_2 := blk_frozen BK112.out 2
              have hfz15_3 := blk_frozen BK112.out 3
              have hfz15_4 := blk_frozen BK112.out 4
              have hfz15_5 := blk_frozen BK112.out 5
              have hfz15_6 := blk_frozen BK112.out 6
              go_wp2_with (first | (go_at_call 5; (with_reducible refine (laws_fits.calls k _ _ l0_3 60 0 200 true _ ?side1 ?side2 A12.out).mono ?_); (case side1 => repeat (first | exact (Kd.C_below HR0_3.out HB.out) | (with_reducible refine Kd.C_alloc ?_ _) | (with_reducible refine Kd.C_drewN ?_ _) | (with_reducible refine Kd.C_drew ?_))); (case side2 => exact HC0_3.out); rintro e w' ⟨rfl, ⟨nd, rfl⟩⟩))
              go_meet
              case rel => exact ⟨_, (true), (by first | rfl | (simp; done) | (simp [*]; done)), H', ⟨by first | omega | exact Nat.le_refl _⟩, ⟨by (with_reducible repeat (first | refine blk_drewN ?_ _ | refine blk_drew ?_ | refine blk_alloc ?_ _)); exact BK112.out⟩, ⟨by repeat (first | (with_reducible first | exact HB.out | apply below_alloc | apply pw_below_drewN | apply below_drew1 | refine below_set ?_ GE112.out) | exact HB.out)⟩⟩
            · rw [if_neg c14] at H
              have c14b0 : decide (a0_6 < 0) = false := decide_eq_false c14
              clear c14
              by_cases c16 : a0_6 > 200
              · rw [if_pos c16] at H
                have c16b0 : decide (200 < a0_6) = true := decide_eq_true c16
                clear c16
                have H' := Aside0.mk H
                clear H
                have hcz17_0 : w7.cell? ⟨gb112, 0, none⟩ = some (.slice A0_0 l0_0.length c0_0) := (blk_cell BK112.out 0).trans rfl
                have hcz17_1 : w7.cell? ⟨gb112, 1, none⟩ = some (.int .i64 a0_1) := (blk_cell BK112.out 1).trans rfl
                have hcz17_2 : w7.cell? ⟨gb112, 2, none⟩ = some (.bool a0_2) := (blk_cell BK112.out 2).trans rfl
                have hcz17_3 : w7.cell? ⟨gb112, 3, none⟩ = some (.slice A0_3 l0_3.length c0_3) := (blk_cell BK112.out 3).trans rfl
                have hcz17_4 : w7.cell? ⟨gb112, 4, none⟩ = some (.slice A0_4 l0_4.length c0_4) := (blk_cell BK112.out 4).trans rfl
                have hcz17_5 : w7.cell? ⟨gb112, 5, none⟩ = some (.int .i64 a0_5) := (blk_cell BK112.out 5).trans rfl
                have hcz17_6 : w7.cell? ⟨gb112, 6, none⟩ = some (.int .i64 a0_6) := (blk_cell BK112.out 6).trans rfl
                have hfz17_0 := blk_frozen BK112.out 0
                have hfz17_1 := blk_frozen BK112.out 1
                have hfz17_2 := blk_frozen BK112.out 2
                have hfz17_3 := blk_frozen BK112.out 3
                have hfz17_4 := blk_frozen BK112.out 4
                have hfz17_5 := blk_frozen BK112.out 5
                have hfz17_6 := blk_frozen BK112.out 6
                go_wp2_with (first | (go_at_call 5; (with_reducible refine (laws_fits.calls k _ _ l0_3 60 0 200 true _ ?side1 ?side2 A12.out).mono ?_); (case side1 => repeat (first | exact (Kd.C_below HR0_3.out HB.out) | (with_reducible refine Kd.C_alloc ?_ _) | (with_reducible refine Kd.C_drewN ?_ _) | (with_reducible refine Kd.C_drew ?_))); (case side2 => exact HC0_3.out); rintro e w' ⟨rfl, ⟨nd, rfl⟩⟩))
                go_meet
                case rel => exact ⟨_, (true), (by first | rfl | (simp; done) | (simp [*]; done)), H', ⟨by first | omega | exact Nat.le_refl _⟩, ⟨by (with_reducible repeat (first | refine blk_drewN ?_ _ | refine blk_drew ?_ | refine blk_alloc ?_ _)); exact BK112.out⟩, ⟨by repeat (first | (with_reducible first | exact HB.out | apply below_alloc | apply pw_below_drewN | apply below_drew1 | refine below_set ?_ GE112.out) | exact HB.out)⟩⟩
              · rw [if_neg c16] at H
                have c16b0 : decide (200 < a0_6) = false := decide_eq_false c16
                clear c16
                replace H := Option.bind_eq_some_iff.mp H
                obtain ⟨t115, A180, H⟩ := H
                replace H : (laws_FnMarkdownSeparator.j0 k (!t115) l0_0 a0_1 a0_2 l0_3 l0_4 a0_5 a0_6) = some r := H
                have A18 := Aside0.mk A180
                clear A180
                have H' := Aside0.mk H
                clear H
                have hcz19_0 : w7.cell? ⟨gb112, 0, none⟩ = some (.slice A0_0 l0_0.length c0_0) := (blk_cell BK112.out 0).trans rfl
                have hcz19_1 : w7.cell? ⟨gb112, 1, none⟩ = some (.int .i64 a0_1) := (blk_cell BK112.out 1).trans rfl
                have hcz19_2 : w7.cell? ⟨gb112, 2, none⟩ = some (.bool a0_2) := (blk_cell BK112.out 2).trans rfl
                have hcz19_3 : w7.cell? ⟨gb112, 3, none⟩ = some (.slice A0_3 l0_3.length c0_3) := (blk_cell BK112.out 3).trans rfl
                have hcz19_4 : w7.cell? ⟨gb112, 4, none⟩ = some (.slice A0_4 l0_4.length c0_4) := (blk_cell BK112.out 4).trans rfl
                have hcz19_5 : w7.cell? ⟨gb112, 5, none⟩ = some (.int .i64 a0_5) := (blk_cell BK112.out 5).trans rfl
                have hcz19_6 : w7.cell? ⟨gb112, 6, none⟩ = some (.int .i64 a0_6) := (blk_cell BK112.out 6).trans rfl
                have hfz19_0 := blk_frozen BK112.out 0
                have hfz19_1 := blk_frozen BK112.out 1
                have hfz19_2 := blk_frozen BK112.out 2
                have hfz19_3 := blk_frozen BK112.out 3
                have hfz19_4 := blk_frozen BK112.out 4
                have hfz19_5 := blk_frozen BK112.out 5
                have hfz19_6 := blk_frozen BK112.out 6
                go_wp2_with (first | (go_at_call 5; (with_reducible refine (laws_fits.calls k _ _ l0_3 60 0 200 true _ ?side1 ?side2 A12.out).mono ?_); (case side1 => repeat (first | exact (Kd.C_below HR0_3.out HB.out) | (with_reducible refine Kd.C_alloc ?_ _) | (with_reducible refine Kd.C_drewN ?_ _) | (with_reducible refine Kd.C_drew ?_))); (case side2 => exact HC0_3.out); rintro e w' ⟨rfl, ⟨nd, rfl⟩⟩) | (go_at_call 5; (with_reducible refine (laws_fits.calls k _ _ l0_4 60 0 5 t115 _ ?side1 ?side2 A18.out).mono ?_); (case side1 => repeat (first | exact (Kd.C_below HR0_4.out (by repeat (first | (with_reducible first | exact HB.out | apply below_alloc | apply pw_below_drewN | apply below_drew1 | refine below_set ?_ GE112.out) | exact HB.out))) | (with_reducible refine Kd.C_alloc ?_ _) | (with_reducible refine Kd.C_drewN ?_ _) | (with_reducible refine Kd.C_drew ?_))); (case side2 => exact HC0_4.out); rintro e w' ⟨rfl, ⟨nd, rfl⟩⟩))
                go_meet
                case rel => exact ⟨_, (!t115), (by first | rfl | (simp; done) | (simp [*]; done)), H', ⟨by first | omega | exact Nat.le_refl _⟩, ⟨by (with_reducible repeat (first | refine blk_drewN ?_ _ | refine blk_drew ?_ | refine blk_alloc ?_ _)); exact BK112.out⟩, ⟨by repeat (first | (with_reducible first | exact HB.out | apply below_alloc | apply pw_below_drewN | apply below_drew1 | refine below_set ?_ GE112.out) | exact HB.out)⟩⟩
          · replace c13 := Bool.eq_false_iff.mpr c13
            subst c13
            have H1 : (laws_FnMarkdownSeparator.j0 k true l0_0 a0_1 a0_2 l0_3 l0_4 a0_5 a0_6) = some r := by rw [if_neg (show ¬ (false = true) by decide)] at H; exact H
            clear H
            have H := H1
            clear H1
            have H' := Aside0.mk H
            clear H
            have hcz20_0 : w7.cell? ⟨gb112, 0, none⟩ = some (.slice A0_0 l0_0.length c0_0) := (blk_cell BK112.out 0).trans rfl
            have hcz20_1 : w7.cell? ⟨gb112, 1, none⟩ = some (.int .i64 a0_1) := (blk_cell BK112.out 1).trans rfl
            have hcz20_2 : w7.cell? ⟨gb112, 2, none⟩ = some (.bool a0_2) := (blk_cell BK112.out 2).trans rfl
            have hcz20_3 : w7.cell? ⟨gb112, 3, none⟩ = some (.slice A0_3 l0_3.length c0_3) := (blk_cell BK112.out 3).trans rfl
            have hcz20_4 : w7.cell? ⟨gb112, 4, none⟩ = some (.slice A0_4 l0_4.length c0_4) := (blk_cell BK112.out 4).trans rfl
            have hcz20_5 : w7.cell? ⟨gb112, 5, none⟩ = some (.int .i64 a0_5) := (blk_cell BK112.out 5).trans rfl
            have hcz20_6 : w7.cell? ⟨gb112, 6, none⟩ = some (.int .i64 a0_6) := (blk_cell BK112.out 6).trans rfl
            have hfz20_0 := blk_frozen BK112.out 0
            have hfz20_1 := blk_frozen BK112.out 1
            have hfz20_2 := blk_frozen BK112.out 2
            have hfz20_3 := blk_frozen BK112.out 3
            have hfz20_4 := blk_frozen BK112.out 4
            have hfz20_5 := blk_frozen BK112.out 5
            have hfz20_6 := blk_frozen BK112.out 6
            go_wp2_with (first | (go_at_call 5; (with_reducible refine (laws_fits.calls k _ _ l0_3 60 0 200 false _ ?side1 ?side2 A12.out).mono ?_); (case side1 => repeat (first | exact (Kd.C_below HR0_3.out HB.out) | (with_reducible refine Kd.C_alloc ?_ _) | (with_reducible refine Kd.C_drewN ?_ _) | (with_reducible refine Kd.C_drew ?_))); (case side2 => exact HC0_3.out); rintro e w' ⟨rfl, ⟨nd, rfl⟩⟩))
            go_meet
            case rel => exact ⟨_, (true), (by first | rfl | (simp; done) | (simp [*]; done)), H', ⟨by first | omega | exact Nat.le_refl _⟩, ⟨by (with_reducible repeat (first | refine blk_drewN ?_ _ | refine blk_drew ?_ | refine blk_alloc ?_ _)); exact BK112.out⟩, ⟨by repeat (first | (with_reducible first | exact HB.out | apply below_alloc | apply pw_below_drewN | apply below_drew1 | refine below_set ?_ GE112.out) | exact HB.out)⟩⟩
    case rest =>
      clear HC4
      try clear c1
      try clear p2
      try clear c3
      try clear c4
      try clear c8
      try clear c8b0
      try clear c10
      try clear c10b0
      try clear c13
      try clear c14
      try clear c14b0
      try clear c16
      try clear c16b0
      try clear hcz11_0
      try clear hcz11_1
      try clear hcz11_2
      try clear hcz11_3
      try clear hcz11_4
      try clear hcz11_5
      try clear hcz11_6
      try clear hcz15_0
      try clear hcz15_1
      try clear hcz15_2
      try clear hcz15_3
      try clear hcz15_4
      try clear hcz15_5
      try clear hcz15_6
      try clear hcz17_0
      try clear hcz17_1
      try clear hcz17_2
      try clear hcz17_3
      try clear hcz17_4
      try clear hcz17_5
      try clear hcz17_6
      try clear hcz19_0
      try clear hcz19_1
      try clear hcz19_2
      try clear hcz19_3
      try clear hcz19_4
      try clear hcz19_5
      try clear hcz19_6
      try clear hcz20_0
      try clear hcz20_1
      try clear hcz20_2
      try clear hcz20_3
      try clear hcz20_4
      try clear hcz20_5
      try clear hcz20_6
      try clear hcz6_0
      try clear hcz6_1
      try clear hcz6_2
      try clear hcz6_3
      try clear hcz6_4
      try clear hcz6_5
      try clear hcz6_6
      try clear hcz9_0
      try clear hcz9_1
      try clear hcz9_2
      try clear hcz9_3
      try clear hcz9_4
      try clear hcz9_5
      try clear hcz9_6
      try clear hfz11_0
      try clear hfz11_1
      try clear hfz11_2
      try clear hfz11_3
      try clear hfz11_4
      try clear hfz11_5
      try clear hfz11_6
      try clear hfz15_0
      try clear hfz15_1
      try clear hfz15_2
      try clear hfz15_3
      try clear hfz15_4
      try clear hfz15_5
      try clear hfz15_6
      try clear hfz17_0
      try clear hfz17_1
      try clear hfz17_2
      try clear hfz17_3
      try clear hfz17_4
      try clear hfz17_5
      try clear hfz17_6
      try clear hfz19_0
      try clear hfz19_1
      try clear hfz19_2
      try clear hfz19_3
      try clear hfz19_4
      try clear hfz19_5
      try clear hfz19_6
      try clear hfz20_0
      try clear hfz20_1
      try clear hfz20_2
      try clear hfz20_3
      try clear hfz20_4
      try clear hfz20_5
      try clear hfz20_6
      try clear hfz6_0
      try clear hfz6_1
      try clear hfz6_2
      try clear hfz6_3
      try clear hfz6_4
      try clear hfz6_5
      try clear hfz6_6
      try clear hfz9_0
      try clear hfz9_1
      try clear hfz9_2
      try clear hfz9_3
      try clear hfz9_4
      try clear hfz9_5
      try clear hfz9_6
      obtain ⟨kq, x37_3, rfl, HA, HJ3, BK112, HB⟩ := hcut
      cases kq with
      | zero => exact absurd HA.out (by simp [laws_FnMarkdownSeparator.j0])
      | succ kj3 =>
        have H := HA.out
        clear HA
        simp only [laws_FnMarkdownSeparator.j0] at H
        by_cases c21 : x37_3 = true
        · subst c21
          have H1 : (some true) = some r := by rw [if_pos rfl] at H; exact H
          clear H
          have H := H1
          clear H1
          obtain rfl := Option.some.inj H
          go_wp2
          go_ret
          exact ⟨by first | rfl | (simp [errW_none, errW_some] <;> rfl) | (simp [*, errW_none, errW_some] <;> rfl), by repeat (first | (with_reducible first | exact HB.out | apply below_alloc | apply pw_below_drewN | apply below_drew1 | refine below_set ?_ GE112.out) | exact HB.out)⟩
        · replace c21 := Bool.eq_false_iff.mpr c21
          subst c21
          have H1 : (if a0_5 > 0 then (laws_FnMarkdownSeparator.j1 kj3 (⟨#[124]⟩ : ByteArray) a0_2 l0_0 a0_1 a0_2 l0_3 l0_4 a0_5 a0_6) else (laws_FnMarkdownSeparator.j1 kj3 (⟨#[124]⟩ : ByteArray) false l0_0 a0_1 a0_2 l0_3 l0_4 a0_5 a0_6)) = some r := by rw [if_neg (show ¬ (false = true) by decide)] at H; exact H
          clear H
          have H := H1
          clear H1
          have HC22 := Aside0.mk H
          clear H
          go_upto_region 6 with (fail)
          go_cut [44] (fun v44 wc => ∃ (kq : Nat) (x44_21 : Bool), v44 = .bool x44_21 ∧ Aside0 (laws_FnMarkdownSeparator.j1 kq (⟨#[124]⟩ : ByteArray) x44_21 l0_0 a0_1 a0_2 l0_3 l0_4 a0_5 a0_6 = some r) ∧ Aside0 (kq ≤ kj3) ∧ Aside0 (wc.heap[gb112]? = some (.cells #[(.slice A0_0 l0_0.length c0_0), .int .i64 a0_1, .bool a0_2, (.slice A0_3 l0_3.length c0_3), (.slice A0_4 l0_4.length c0_4), .int .i64 a0_5, .int .i64 a0_6] 29 (0, 0))) ∧ Aside0 (Below w.heap.size w wc))
          case first =>
            have H := HC22.out
            clear HC22
            by_cases c23 : a0_5 > 0
            · rw [if_pos c23] at H
              have c23b0 : decide (0 < a0_5) = true := decide_eq_true c23
              clear c23
              (first | rw [c23b0] | (simp only [i64_w, i32_w]; rw [c23b0]) | skip)
              have H' := Aside0.mk H
              clear H
              have hcz24_0 : wc.cell? ⟨gb112, 0, none⟩ = some (.slice A0_0 l0_0.length c0_0) := (blk_cell BK112.out 0).trans rfl
              have hcz24_1 : wc.cell? ⟨gb112, 1, none⟩ = some (.int .i64 a0_1) := (blk_cell BK112.out 1).trans rfl
              have hcz24_2 : wc.cell? ⟨gb112, 2, none⟩ = some (.bool a0_2) := (blk_cell BK112.out 2).trans rfl
              have hcz24_3 : wc.cell? ⟨gb112, 3, none⟩ = some (.slice A0_3 l0_3.length c0_3) := (blk_cell BK112.out 3).trans rfl
              have hcz24_4 : wc.cell? ⟨gb112, 4, none⟩ = some (.slice A0_4 l0_4.length c0_4) := (blk_cell BK112.out 4).trans rfl
              have hcz24_5 : wc.cell? ⟨gb112, 5, none⟩ = some (.int .i64 a0_5) := (blk_cell BK112.out 5).trans rfl
              have hcz24_6 : wc.cell? ⟨gb112, 6, none⟩ = some (.int .i64 a0_6) := (blk_cell BK112.out 6).trans rfl
              have hfz24_0 := blk_frozen BK112.out 0
              have hfz24_1 := blk_frozen BK112.out 1
              have hfz24_2 := blk_frozen BK112.out 2
              have hfz24_3 := blk_frozen BK112.out 3
              have hfz24_4 := blk_frozen BK112.out 4
              have hfz24_5 := blk_frozen BK112.out 5
              have hfz24_6 := blk_frozen BK112.out 6
              go_wp2
              go_meet
              case rel => exact ⟨_, (a0_2), (by first | rfl | (simp; done) | (simp [*]; done)), H', ⟨by have := HJ3.out; first | omega | exact Nat.le_refl _⟩, ⟨by (with_reducible repeat (first | refine blk_drewN ?_ _ | refine blk_drew ?_ | refine blk_alloc ?_ _)); exact BK112.out⟩, ⟨by repeat (first | (with_reducible first | exact HB.out | apply below_alloc | apply pw_below_drewN | apply below_drew1 | refine below_set ?_ GE112.out) | exact HB.out)⟩⟩
            · rw [if_neg c23] at H
              have c23b0 : decide (0 < a0_5) = false := decide_eq_false c23
              clear c23
              (first | rw [c23b0] | (simp only [i64_w, i32_w]; rw [c23b0]) | skip)
              have H' := Aside0.mk H
              clear H
              have hcz25_0 : wc.cell? ⟨gb112, 0, none⟩ = some (.slice A0_0 l0_0.length c0_0) := (blk_cell BK112.out 0).trans rfl
              have hcz25_1 : wc.cell? ⟨gb112, 1, none⟩ = some (.int .i64 a0_1) := (blk_cell BK112.out 1).trans rfl
              have hcz25_2 : wc.cell? ⟨gb112, 2, none⟩ = some (.bool a0_2) := (blk_cell BK112.out 2).trans rfl
              have hcz25_3 : wc.cell? ⟨gb112, 3, none⟩ = some (.slice A0_3 l0_3.length c0_3) := (blk_cell BK112.out 3).trans rfl
              have hcz25_4 : wc.cell? ⟨gb112, 4, none⟩ = some (.slice A0_4 l0_4.length c0_4) := (blk_cell BK112.out 4).trans rfl
              have hcz25_5 : wc.cell? ⟨gb112, 5, none⟩ = some (.int .i64 a0_5) := (blk_cell BK112.out 5).trans rfl
              have hcz25_6 : wc.cell? ⟨gb112, 6, none⟩ = some (.int .i64 a0_6) := (blk_cell BK112.out 6).trans rfl
              have hfz25_0 := blk_frozen BK112.out 0
              have hfz25_1 := blk_frozen BK112.out 1
              have hfz25_2 := blk_frozen BK112.out 2
              have hfz25_3 := blk_frozen BK112.out 3
              have hfz25_4 := blk_frozen BK112.out 4
              have hfz25_5 := blk_frozen BK112.out 5
              have hfz25_6 := blk_frozen BK112.out 6
              go_wp2
              go_meet
              case rel => exact ⟨_, (false), (by first | rfl | (simp; done) | (simp [*]; done)), H', ⟨by have := HJ3.out; first | omega | exact Nat.le_refl _⟩, ⟨by (with_reducible repeat (first | refine blk_drewN ?_ _ | refine blk_drew ?_ | refine blk_alloc ?_ _)); exact BK112.out⟩, ⟨by repeat (first | (with_reducible first | exact HB.out | apply below_alloc | apply pw_below_drewN | apply below_drew1 | refine below_set ?_ GE112.out) | exact HB.out)⟩⟩
          case rest =>
            clear HC22
            try clear c1
            try clear c2
            try clear p2
            try clear c3
            try clear c4
            try clear c8
            try clear c8b0
            try clear c10
            try clear c10b0
            try clear c13
            try clear c14
            try clear c14b0
            try clear c16
            try clear c16b0
            try clear c21
            try clear c23
            try clear c23b0
            try clear hcz11_0
            try clear hcz11_1
            try clear hcz11_2
            try clear hcz11_3
            try clear hcz11_4
            try clear hcz11_5
            try clear hcz11_6
            try clear hcz15_0
            try clear hcz15_1
            try clear hcz15_2
            try clear hcz15_3
            try clear hcz15_4
            try clear hcz15_5
            try clear hcz15_6
            try clear hcz17_0
            try clear hcz17_1
            try clear hcz17_2
            try clear hcz17_3
            try clear hcz17_4
            try clear hcz17_5
            try clear hcz17_6
            try clear hcz19_0
            try clear hcz19_1
            try clear hcz19_2
            try clear hcz19_3
            try clear hcz19_4
            try clear hcz19_5
            try clear hcz19_6
            try clear hcz20_0
            try clear hcz20_1
            try clear hcz20_2
            try clear hcz20_3
            try clear hcz20_4
            try clear hcz20_5
            try clear hcz20_6
            try clear hcz24_0
            try clear hcz24_1
            try clear hcz24_2
            try clear hcz24_3
            try clear hcz24_4
            try clear hcz24_5
            try clear hcz24_6
            try clear hcz25_0
            try clear hcz25_1
            try clear hcz25_2
            try clear hcz25_3
            try clear hcz25_4
            try clear hcz25_5
            try clear hcz25_6
            try clear hcz6_0
            try clear hcz6_1
            try clear hcz6_2
            try clear hcz6_3
            try clear hcz6_4
            try clear hcz6_5
            try clear hcz6_6
            try clear hcz9_0
            try clear hcz9_1
            try clear hcz9_2
            try clear hcz9_3
            try clear hcz9_4
            try clear hcz9_5
            try clear hcz9_6
            try clear hfz11_0
            try clear hfz11_1
            try clear hfz11_2
            try clear hfz11_3
            try clear hfz11_4
            try clear hfz11_5
            try clear hfz11_6
            try clear hfz15_0
            try clear hfz15_1
            try clear hfz15_2
            try clear hfz15_3
            try clear hfz15_4
            try clear hfz15_5
            try clear hfz15_6
            try clear hfz17_0
            try clear hfz17_1
            try clear hfz17_2
            try clear hfz17_3
            try clear hfz17_4
            try clear hfz17_5
            try clear hfz17_6
            try clear hfz19_0
            try clear hfz19_1
            try clear hfz19_2
            try clear hfz19_3
            try clear hfz19_4
            try clear hfz19_5
            try clear hfz19_6
            try clear hfz20_0
            try clear hfz20_1
            try clear hfz20_2
            try clear hfz20_3
            try clear hfz20_4
            try clear hfz20_5
            try clear hfz20_6
            try clear hfz24_0
            try clear hfz24_1
            try clear hfz24_2
            try clear hfz24_3
            try clear hfz24_4
            try clear hfz24_5
            try clear hfz24_6
            try clear hfz25_0
            try clear hfz25_1
            try clear hfz25_2
            try clear hfz25_3
            try clear hfz25_4
            try clear hfz25_5
            try clear hfz25_6
            try clear hfz6_0
            try clear hfz6_1
            try clear hfz6_2
            try clear hfz6_3
            try clear hfz6_4
            try clear hfz6_5
            try clear hfz6_6
            try clear hfz9_0
            try clear hfz9_1
            try clear hfz9_2
            try clear hfz9_3
            try clear hfz9_4
            try clear hfz9_5
            try clear hfz9_6
            try clear p2
            obtain ⟨kq, x44_21, rfl, HA, HJ21, BK112, HB⟩ := hcut
            cases kq with
            | zero => exact absurd HA.out (by simp [laws_FnMarkdownSeparator.j1])
            | succ kj21 =>
              have H := HA.out
              clear HA
              simp only [laws_FnMarkdownSeparator.j1] at H
              have HC26 := Aside0.mk H
              clear H
              go_upto_if 44 with (fail)
              go_cut [3] (fun v3 wc => ∃ (kq : Nat) (x3_25 : ByteArray), v3 = .string x3_25 ∧ Aside0 (laws_FnMarkdownSeparator.j2 kq x3_25 l0_0 a0_1 a0_2 l0_3 l0_4 a0_5 a0_6 = some r) ∧ Aside0 (kq ≤ kj21) ∧ Aside0 (wc.heap[gb112]? = some (.cells #[(.slice A0_0 l0_0.length c0_0), .int .i64 a0_1, .bool a0_2, (.slice A0_3 l0_3.length c0_3), (.slice A0_4 l0_4.length c0_4), .int .i64 a0_5, .int .i64 a0_6] 29 (0, 0))) ∧ Aside0 (Below w.heap.size w wc))
              case first =>
                have H := HC26.out
                clear HC26
                by_cases c27 : x44_21 = true
                · subst c27
                  have H1 : (if (⟨#[124]⟩ : ByteArray).size + 1 ≤ 9223372036854775807 then ((spec_Times.f kj21 (⟨#[45]⟩ : ByteArray) a0_6).bind fun t116 => (if ((⟨#[124]⟩ : ByteArray) ++ (⟨#[32]⟩ : ByteArray)).size + t116.size ≤ 9223372036854775807 then (if (((⟨#[124]⟩ : ByteArray) ++ (⟨#[32]⟩ : ByteArray)) ++ t116).size + 2 ≤ 9223372036854775807 then (laws_FnMarkdownSeparator.j2 kj21 ((((⟨#[124]⟩ : ByteArray) ++ (⟨#[32]⟩ : ByteArray)) ++ t116) ++ (⟨#[58, 124]⟩ : ByteArray)) l0_0 a0_1 a0_2 l0_3 l0_4 a0_5 a0_6) else (none)) else (none))) else (none)) = some r := by rw [if_pos rfl] at H; exact H
                  clear H
                  have H := H1
                  clear H1
                  by_cases c28 : (⟨#[124]⟩ : ByteArray).size + 1 ≤ 9223372036854775807
                  · rw [if_pos c28] at H
                    have c28b0 := eq_true c28
                    have c28b1 : decide ((⟨#[124]⟩ : ByteArray).size + 1 ≤ 9223372036854775807) = true := decide_eq_true c28
                    try have c28b2 : (9223372036854775807 < (⟨#[124]⟩ : ByteArray).size + 1) = False := eq_false (Nat.not_lt.2 c28)
                    try have c28b3 : (9223372036854775807 < 1 + 1) = False := eq_false (Nat.not_lt.2 (by have z_ := c28; simp only [ByteArray.size_append] at z_; exact z_))
                    replace H := Option.bind_eq_some_iff.mp H
                    obtain ⟨t116, A290, H⟩ := H
                    replace H : (if ((⟨#[124]⟩ : ByteArray) ++ (⟨#[32]⟩ : ByteArray)).size + t116.size ≤ 9223372036854775807 then (if (((⟨#[124]⟩ : ByteArray) ++ (⟨#[32]⟩ : ByteArray)) ++ t116).size + 2 ≤ 9223372036854775807 then (laws_FnMarkdownSeparator.j2 kj21 ((((⟨#[124]⟩ : ByteArray) ++ (⟨#[32]⟩ : ByteArray)) ++ t116) ++ (⟨#[58, 124]⟩ : ByteArray)) l0_0 a0_1 a0_2 l0_3 l0_4 a0_5 a0_6) else (none)) else (none)) = some r := H
                    have A29 := Aside0.mk A290
                    clear A290
                    by_cases c30 : ((⟨#[124]⟩ : ByteArray) ++ (⟨#[32]⟩ : ByteArray)).size + t116.size ≤ 9223372036854775807
                    · rw [if_pos c30] at H
                      have c30b0 := eq_true c30
                      have c30b1 : decide (((⟨#[124]⟩ : ByteArray) ++ (⟨#[32]⟩ : ByteArray)).size + t116.size ≤ 9223372036854775807) = true := decide_eq_true c30
                      try have c30b2 : (9223372036854775807 < ((⟨#[124]⟩ : ByteArray) ++ (⟨#[32]⟩ : ByteArray)).size + t116.size) = False := eq_false (Nat.not_lt.2 c30)
                      try have c30b3 : (9223372036854775807 < 1 + 1 + t116.size) = False := eq_false (Nat.not_lt.2 (by have z_ := c30; simp only [ByteArray.size_append] at z_; exact z_))
                      by_cases c31 : (((⟨#[124]⟩ : ByteArray) ++ (⟨#[32]⟩ : ByteArray)) ++ t116).size + 2 ≤ 9223372036854775807
                      · rw [if_pos c31] at H
                        have c31b0 := eq_true c31
                        have c31b1 : decide ((((⟨#[124]⟩ : ByteArray) ++ (⟨#[32]⟩ : ByteArray)) ++ t116).size + 2 ≤ 9223372036854775807) = true := decide_eq_true c31
                        try have c31b2 : (9223372036854775807 < (((⟨#[124]⟩ : ByteArray) ++ (⟨#[32]⟩ : ByteArray)) ++ t116).size + 2) = False := eq_false (Nat.not_lt.2 c31)
                        try have c31b3 : (9223372036854775807 < 1 + 1 + t116.size + 2) = False := eq_false (Nat.not_lt.2 (by have z_ := c31; simp only [ByteArray.size_append] at z_; exact z_))
                        have H' := Aside0.mk H
                        clear H
                        have hcz32_0 : wc.cell? ⟨gb112, 0, none⟩ = some (.slice A0_0 l0_0.length c0_0) := (blk_cell BK112.out 0).trans rfl
                        have hcz32_1 : wc.cell? ⟨gb112, 1, none⟩ = some (.int .i64 a0_1) := (blk_cell BK112.out 1).trans rfl
                        have hcz32_2 : wc.cell? ⟨gb112, 2, none⟩ = some (.bool a0_2) := (blk_cell BK112.out 2).trans rfl
                        have hcz32_3 : wc.cell? ⟨gb112, 3, none⟩ = some (.slice A0_3 l0_3.length c0_3) := (blk_cell BK112.out 3).trans rfl
                        have hcz32_4 : wc.cell? ⟨gb112, 4, none⟩ = some (.slice A0_4 l0_4.length c0_4) := (blk_cell BK112.out 4).trans rfl
                        have hcz32_5 : wc.cell? ⟨gb112, 5, none⟩ = some (.int .i64 a0_5) := (blk_cell BK112.out 5).trans rfl
                        have hcz32_6 : wc.cell? ⟨gb112, 6, none⟩ = some (.int .i64 a0_6) := (blk_cell BK112.out 6).trans rfl
                        have hfz32_0 := blk_frozen BK112.out 0
                        have hfz32_1 := blk_frozen BK112.out 1
                        have hfz32_2 := blk_frozen BK112.out 2
                        have hfz32_3 := blk_frozen BK112.out 3
                        have hfz32_4 := blk_frozen BK112.out 4
                        have hfz32_5 := blk_frozen BK112.out 5
                        have hfz32_6 := blk_frozen BK112.out 6
                        go_wp2_with (first | ((with_reducible refine gate_callee (f := 9) rfl ?_); refine goesL_ (some 49) rfl rfl Try.func9 (by kernel_rfl) rfl #[.string (⟨#[45]⟩ : ByteArray), .int .i64 a0_6] rfl (by (try simp only [List.map_toArray, List.map_cons, List.map_nil]); first | done | rfl | (simp only [List.length_drop, List.length_take]; rfl)) ?_; (with_reducible refine (spec_Times.calls kj21 (⟨#[45]⟩ : ByteArray) a0_6 t116 _ A29.out).mono ?_); rintro e w' ⟨rfl, ⟨nd, rfl⟩⟩; refine ⟨_, rfl, ?_⟩))
                        go_meet
                        case rel => exact ⟨_, ((((⟨#[124]⟩ : ByteArray) ++ (⟨#[32]⟩ : ByteArray)) ++ t116) ++ (⟨#[58, 124]⟩ : ByteArray)), (by first | rfl | (simp; done) | (simp [*]; done)), H', ⟨by have := HJ3.out; have := HJ21.out; first | omega | exact Nat.le_refl _⟩, ⟨by (with_reducible repeat (first | refine blk_drewN ?_ _ | refine blk_drew ?_ | refine blk_alloc ?_ _)); exact BK112.out⟩, ⟨by repeat (first | (with_reducible first | exact HB.out | apply below_alloc | apply pw_below_drewN | apply below_drew1 | refine below_set ?_ GE112.out) | exact HB.out)⟩⟩
                      · rw [if_neg c31] at H
                        exact absurd H (by simp)
                    · rw [if_neg c30] at H
                      exact absurd H (by simp)
                  · rw [if_neg c28] at H
                    exact absurd H (by simp)
                · replace c27 := Bool.eq_false_iff.mpr c27
                  subst c27
                  have H1 : (if a0_5 > 0 then (if (⟨#[124]⟩ : ByteArray).size + 6 ≤ 9223372036854775807 then (laws_FnMarkdownSeparator.j2 kj21 ((⟨#[124]⟩ : ByteArray) ++ (⟨#[32, 45, 45, 45, 58, 124]⟩ : ByteArray)) l0_0 a0_1 a0_2 l0_3 l0_4 a0_5 a0_6) else (none)) else (laws_FnMarkdownSeparator.j2 kj21 (⟨#[124]⟩ : ByteArray) l0_0 a0_1 a0_2 l0_3 l0_4 a0_5 a0_6)) = some r := by rw [if_neg (show ¬ (false = true) by decide)] at H; exact H
                  clear H
                  have H := H1
                  clear H1
                  by_cases c33 : a0_5 > 0
                  · rw [if_pos c33] at H
                    have c33b0 : decide (0 < a0_5) = true := decide_eq_true c33
                    clear c33
                    (first | rw [c33b0] | (simp only [i64_w, i32_w]; rw [c33b0]) | skip)
                    by_cases c34 : (⟨#[124]⟩ : ByteArray).size + 6 ≤ 9223372036854775807
                    · rw [if_pos c34] at H
                      have c34b0 := eq_true c34
                      have c34b1 : decide ((⟨#[124]⟩ : ByteArray).size + 6 ≤ 9223372036854775807) = true := decide_eq_true c34
                      try have c34b2 : (9223372036854775807 < (⟨#[124]⟩ : ByteArray).size + 6) = False := eq_false (Nat.not_lt.2 c34)
                      try have c34b3 : (9223372036854775807 < 1 + 6) = False := eq_false (Nat.not_lt.2 (by have z_ := c34; simp only [ByteArray.size_append] at z_; exact z_))
                      have H' := Aside0.mk H
                      clear H
                      have hcz35_0 : wc.cell? ⟨gb112, 0, none⟩ = some (.slice A0_0 l0_0.length c0_0) := (blk_cell BK112.out 0).trans rfl
                      have hcz35_1 : wc.cell? ⟨gb112, 1, none⟩ = some (.int .i64 a0_1) := (blk_cell BK112.out 1).trans rfl
                      have hcz35_2 : wc.cell? ⟨gb112, 2, none⟩ = some (.bool a0_2) := (blk_cell BK112.out 2).trans rfl
                      have hcz35_3 : wc.cell? ⟨gb112, 3, none⟩ = some (.slice A0_3 l0_3.length c0_3) := (blk_cell BK112.out 3).trans rfl
                      have hcz35_4 : wc.cell? ⟨gb112, 4, none⟩ = some (.slice A0_4 l0_4.length c0_4) := (blk_cell BK112.out 4).trans rfl
                      have hcz35_5 : wc.cell? ⟨gb112, 5, none⟩ = some (.int .i64 a0_5) := (blk_cell BK112.out 5).trans rfl
                      have hcz35_6 : wc.cell? ⟨gb112, 6, none⟩ = some (.int .i64 a0_6) := (blk_cell BK112.out 6).trans rfl
                      have hfz35_0 := blk_frozen BK112.out 0
                      have hfz35_1 := blk_frozen BK112.out 1
                      have hfz35_2 := blk_frozen BK112.out 2
                      have hfz35_3 := blk_frozen BK112.out 3
                      have hfz35_4 := blk_frozen BK112.out 4
                      have hfz35_5 := blk_frozen BK112.out 5
                      have hfz35_6 := blk_frozen BK112.out 6
                      go_wp2
                      go_meet
                      case rel => exact ⟨_, ((⟨#[124]⟩ : ByteArray) ++ (⟨#[32, 45, 45, 45, 58, 124]⟩ : ByteArray)), (by first | rfl | (simp; done) | (simp [*]; done)), H', ⟨by have := HJ3.out; have := HJ21.out; first | omega | exact Nat.le_refl _⟩, ⟨by (with_reducible repeat (first | refine blk_drewN ?_ _ | refine blk_drew ?_ | refine blk_alloc ?_ _)); exact BK112.out⟩, ⟨by repeat (first | (with_reducible first | exact HB.out | apply below_alloc | apply pw_below_drewN | apply below_drew1 | refine below_set ?_ GE112.out) | exact HB.out)⟩⟩
                    · rw [if_neg c34] at H
                      exact absurd H (by simp)
                  · rw [if_neg c33] at H
                    have c33b0 : decide (0 < a0_5) = false := decide_eq_false c33
                    clear c33
                    (first | rw [c33b0] | (simp only [i64_w, i32_w]; rw [c33b0]) | skip)
                    have H' := Aside0.mk H
                    clear H
                    have hcz36_0 : wc.cell? ⟨gb112, 0, none⟩ = some (.slice A0_0 l0_0.length c0_0) := (blk_cell BK112.out 0).trans rfl
                    have hcz36_1 : wc.cell? ⟨gb112, 1, none⟩ = some (.int .i64 a0_1) := (blk_cell BK112.out 1).trans rfl
                    have hcz36_2 : wc.cell? ⟨gb112, 2, none⟩ = some (.bool a0_2) := (blk_cell BK112.out 2).trans rfl
                    have hcz36_3 : wc.cell? ⟨gb112, 3, none⟩ = some (.slice A0_3 l0_3.length c0_3) := (blk_cell BK112.out 3).trans rfl
                    have hcz36_4 : wc.cell? ⟨gb112, 4, none⟩ = some (.slice A0_4 l0_4.length c0_4) := (blk_cell BK112.out 4).trans rfl
                    have hcz36_5 : wc.cell? ⟨gb112, 5, none⟩ = some (.int .i64 a0_5) := (blk_cell BK112.out 5).trans rfl
                    have hcz36_6 : wc.cell? ⟨gb112, 6, none⟩ = some (.int .i64 a0_6) := (blk_cell BK112.out 6).trans rfl
                    have hfz36_0 := blk_frozen BK112.out 0
                    have hfz36_1 := blk_frozen BK112.out 1
                    have hfz36_2 := blk_frozen BK112.out 2
                    have hfz36_3 := blk_frozen BK112.out 3
                    have hfz36_4 := blk_frozen BK112.out 4
                    have hfz36_5 := blk_frozen BK112.out 5
                    have hfz36_6 := blk_frozen BK112.out 6
                    go_wp2
                    go_meet
                    case rel => exact ⟨_, ((⟨#[124]⟩ : ByteArray)), (by first | rfl | (simp; done) | (simp [*]; done)), H', ⟨by have := HJ3.out; have := HJ21.out; first | omega | exact Nat.le_refl _⟩, ⟨by (with_reducible repeat (first | refine blk_drewN ?_ _ | refine blk_drew ?_ | refine blk_alloc ?_ _)); exact BK112.out⟩, ⟨by repeat (first | (with_reducible first | exact HB.out | apply below_alloc | apply pw_below_drewN | apply below_drew1 | refine below_set ?_ GE112.out) | exact HB.out)⟩⟩
              case rest =>
                clear HC26
                try clear c1
                try clear c2
                try clear p2
                try clear c3
                try clear c4
                try clear c8
                try clear c8b0
                try clear c9
                try clear c10
                try clear c10b0
                try clear c13
                try clear c14
                try clear c14b0
                try clear c16
                try clear c16b0
                try clear c21
                try clear c23
                try clear c23b0
                try clear c27
                try clear c28
                try clear c28b0
                try clear c28b1
                try clear c28b2
                try clear c30
                try clear c30b0
                try clear c30b1
                try clear c30b2
                try clear c31
                try clear c31b0
                try clear c31b1
                try clear c31b2
                try clear c33
                try clear c33b0
                try clear c34
                try clear c34b0
                try clear c34b1
                try clear c34b2
                try clear hcz11_0
                try clear hcz11_1
                try clear hcz11_2
                try clear hcz11_3
                try clear hcz11_4
                try clear hcz11_5
                try clear hcz11_6
                try clear hcz15_0
                try clear hcz15_1
                try clear hcz15_2
                try clear hcz15_3
                try clear hcz15_4
                try clear hcz15_5
                try clear hcz15_6
                try clear hcz17_0
                try clear hcz17_1
                try clear hcz17_2
                try clear hcz17_3
                try clear hcz17_4
                try clear hcz17_5
                try clear hcz17_6
                try clear hcz19_0
                try clear hcz19_1
                try clear hcz19_2
                try clear hcz19_3
                try clear hcz19_4
                try clear hcz19_5
                try clear hcz19_6
                try clear hcz20_0
                try clear hcz20_1
                try clear hcz20_2
                try clear hcz20_3
                try clear hcz20_4
                try clear hcz20_5
                try clear hcz20_6
                try clear hcz24_0
                try clear hcz24_1
                try clear hcz24_2
                try clear hcz24_3
                try clear hcz24_4
                try clear hcz24_5
                try clear hcz24_6
                try clear hcz25_0
                try clear hcz25_1
                try clear hcz25_2
                try clear hcz25_3
                try clear hcz25_4
                try clear hcz25_5
                try clear hcz25_6
                try clear hcz32_0
                try clear hcz32_1
                try clear hcz32_2
                try clear hcz32_3
                try clear hcz32_4
                try clear hcz32_5
                try clear hcz32_6
                try clear hcz35_0
                try clear hcz35_1
                try clear hcz35_2
                try clear hcz35_3
                try clear hcz35_4
                try clear hcz35_5
                try clear hcz35_6
                try clear hcz36_0
                try clear hcz36_1
                try clear hcz36_2
                try clear hcz36_3
                try clear hcz36_4
                try clear hcz36_5
                try clear hcz36_6
                try clear hcz6_0
                try clear hcz6_1
                try clear hcz6_2
                try clear hcz6_3
                try clear hcz6_4
                try clear hcz6_5
                try clear hcz6_6
                try clear hcz9_0
                try clear hcz9_1
                try clear hcz9_2
                try clear hcz9_3
                try clear hcz9_4
                try clear hcz9_5
                try clear hcz9_6
                try clear hfz11_0
                try clear hfz11_1
                try clear hfz11_2
                try clear hfz11_3
                try clear hfz11_4
                try clear hfz11_5
                try clear hfz11_6
                try clear hfz15_0
                try clear hfz15_1
                try clear hfz15_2
                try clear hfz15_3
                try clear hfz15_4
                try clear hfz15_5
                try clear hfz15_6
                try clear hfz17_0
                try clear hfz17_1
                try clear hfz17_2
                try clear hfz17_3
                try clear hfz17_4
                try clear hfz17_5
                try clear hfz17_6
                try clear hfz19_0
                try clear hfz19_1
                try clear hfz19_2
                try clear hfz19_3
                try clear hfz19_4
                try clear hfz19_5
                try clear hfz19_6
                try clear hfz20_0
                try clear hfz20_1
                try clear hfz20_2
                try clear hfz20_3
                try clear hfz20_4
                try clear hfz20_5
                try clear hfz20_6
                try clear hfz24_0
                try clear hfz24_1
                try clear hfz24_2
                try clear hfz24_3
                try clear hfz24_4
                try clear hfz24_5
                try clear hfz24_6
                try clear hfz25_0
                try clear hfz25_1
                try clear hfz25_2
                try clear hfz25_3
                try clear hfz25_4
                try clear hfz25_5
                try clear hfz25_6
                try clear hfz32_0
                try clear hfz32_1
                try clear hfz32_2
                try clear hfz32_3
                try clear hfz32_4
                try clear hfz32_5
                try clear hfz32_6
                try clear hfz35_0
                try clear hfz35_1
                try clear hfz35_2
                try clear hfz35_3
                try clear hfz35_4
                try clear hfz35_5
                try clear hfz35_6
                try clear hfz36_0
                try clear hfz36_1
                try clear hfz36_2
                try clear hfz36_3
                try clear hfz36_4
                try clear hfz36_5
                try clear hfz36_6
                try clear hfz6_0
                try clear hfz6_1
                try clear hfz6_2
                try clear hfz6_3
                try clear hfz6_4
                try clear hfz6_5
                try clear hfz6_6
                try clear hfz9_0
                try clear hfz9_1
                try clear hfz9_2
                try clear hfz9_3
                try clear hfz9_4
                try clear hfz9_5
                try clear hfz9_6
                try clear p2
                obtain ⟨kq, x3_25, rfl, HA, HJ25, BK112, HB⟩ := hcut
                cases kq with
                | zero => exact absurd HA.out (by simp [laws_FnMarkdownSeparator.j2])
                | succ kj25 =>
                  have H := HA.out
                  clear HA
                  simp only [laws_FnMarkdownSeparator.j2] at H
                  have H' := Aside0.mk H
                  clear H
                  go_wp2
                  go_loopg [3, 4] kj25 (fun kq v3 v4 w' => ∃ (x3_4 : ByteArray) (x4_4 : Int), v3 = .string x3_4 ∧ v4 = .int .i64 x4_4 ∧ Aside0 (laws_FnMarkdownSeparator.l0 kq x3_4 x4_4 l0_0 a0_1 a0_2 l0_3 l0_4 a0_5 a0_6 = some r) ∧ Aside0 (kq ≤ kj25) ∧ Aside0 (w'.heap[gb112]? = some (.cells #[(.slice A0_0 l0_0.length c0_0), .int .i64 a0_1, .bool a0_2, (.slice A0_3 l0_3.length c0_3), (.slice A0_4 l0_4.length c0_4), .int .i64 a0_5, .int .i64 a0_6] 29 (0, 0))) ∧ Aside0 (Below w.heap.size w w'))
                  case atStart => exact ⟨(x3_25), (0), (by first | rfl | (simp; done) | (simp [*]; done)), (by first | rfl | (simp; done) | (simp [*]; done)), H', ⟨Nat.le_refl _⟩, ⟨by (with_reducible repeat (first | refine blk_drewN ?_ _ | refine blk_drew ?_ | refine blk_alloc ?_ _)); exact BK112.out⟩, ⟨by repeat (first | (with_reducible first | exact HB.out | apply below_alloc | apply pw_below_drewN | apply below_drew1 | refine below_set ?_ GE112.out) | exact HB.out)⟩⟩
                  case round =>
                    clear H'
                    try clear c1
                    try clear c2
                    try clear p2
                    try clear c3
                    try clear c4
                    try clear c8
                    try clear c8b0
                    try clear c9
                    try clear c10
                    try clear c10b0
                    try clear c13
                    try clear c14
                    try clear c14b0
                    try clear c16
                    try clear c16b0
                    try clear c21
                    try clear c23
                    try clear c23b0
                    try clear c27
                    try clear c28
                    try clear c28b0
                    try clear c28b1
                    try clear c28b2
                    try clear c30
                    try clear c30b0
                    try clear c30b1
                    try clear c30b2
                    try clear c31
                    try clear c31b0
                    try clear c31b1
                    try clear c31b2
                    try clear c33
                    try clear c33b0
                    try clear c34
                    try clear c34b0
                    try clear c34b1
                    try clear c34b2
                    try clear hcz11_0
                    try clear hcz11_1
                    try clear hcz11_2
                    try clear hcz11_3
                    try clear hcz11_4
                    try clear hcz11_5
                    try clear hcz11_6
                    try clear hcz15_0
                    try clear hcz15_1
                    try clear hcz15_2
                    try clear hcz15_3
                    try clear hcz15_4
                    try clear hcz15_5
                    try clear hcz15_6
                    try clear hcz17_0
                    try clear hcz17_1
                    try clear hcz17_2
                    try clear hcz17_3
                    try clear hcz17_4
                    try clear hcz17_5
                    try clear hcz17_6
                    try clear hcz19_0
                    try clear hcz19_1
                    try clear hcz19_2
                    try clear hcz19_3
                    try clear hcz19_4
                    try clear hcz19_5
                    try clear hcz19_6
                    try clear hcz20_0
                    try clear hcz20_1
                    try clear hcz20_2
                    try clear hcz20_3
                    try clear hcz20_4
                    try clear hcz20_5
                    try clear hcz20_6
                    try clear hcz24_0
                    try clear hcz24_1
                    try clear hcz24_2
                    try clear hcz24_3
                    try clear hcz24_4
                    try clear hcz24_5
                    try clear hcz24_6
                    try clear hcz25_0
                    try clear hcz25_1
                    try clear hcz25_2
                    try clear hcz25_3
                    try clear hcz25_4
                    try clear hcz25_5
                    try clear hcz25_6
                    try clear hcz32_0
                    try clear hcz32_1
                    try clear hcz32_2
                    try clear hcz32_3
                    try clear hcz32_4
                    try clear hcz32_5
                    try clear hcz32_6
                    try clear hcz35_0
                    try clear hcz35_1
                    try clear hcz35_2
                    try clear hcz35_3
                    try clear hcz35_4
                    try clear hcz35_5
                    try clear hcz35_6
                    try clear hcz36_0
                    try clear hcz36_1
                    try clear hcz36_2
                    try clear hcz36_3
                    try clear hcz36_4
                    try clear hcz36_5
                    try clear hcz36_6
                    try clear hcz6_0
                    try clear hcz6_1
                    try clear hcz6_2
                    try clear hcz6_3
                    try clear hcz6_4
                    try clear hcz6_5
                    try clear hcz6_6
                    try clear hcz9_0
                    try clear hcz9_1
                    try clear hcz9_2
                    try clear hcz9_3
                    try clear hcz9_4
                    try clear hcz9_5
                    try clear hcz9_6
                    try clear hfz11_0
                    try clear hfz11_1
                    try clear hfz11_2
                    try clear hfz11_3
                    try clear hfz11_4
                    try clear hfz11_5
                    try clear hfz11_6
                    try clear hfz15_0
                    try clear hfz15_1
                    try clear hfz15_2
                    try clear hfz15_3
                    try clear hfz15_4
                    try clear hfz15_5
                    try clear hfz15_6
                    try clear hfz17_0
                    try clear hfz17_1
                    try clear hfz17_2
                    try clear hfz17_3
                    try clear hfz17_4
                    try clear hfz17_5
                    try clear hfz17_6
                    try clear hfz19_0
                    try clear hfz19_1
                    try clear hfz19_2
                    try clear hfz19_3
                    try clear hfz19_4
                    try clear hfz19_5
                    try clear hfz19_6
                    try clear hfz20_0
                    try clear hfz20_1
                    try clear hfz20_2
                    try clear hfz20_3
                    try clear hfz20_4
                    try clear hfz20_5
                    try clear hfz20_6
                    try clear hfz24_0
                    try clear hfz24_1
                    try clear hfz24_2
                    try clear hfz24_3
                    try clear hfz24_4
                    try clear hfz24_5
                    try clear hfz24_6
                    try clear hfz25_0
                    try clear hfz25_1
                    try clear hfz25_2
                    try clear hfz25_3
                    try clear hfz25_4
                    try clear hfz25_5
                    try clear hfz25_6
                    try clear hfz32_0
                    try clear hfz32_1
                    try clear hfz32_2
                    try clear hfz32_3
                    try clear hfz32_4
                    try clear hfz32_5
                    try clear hfz32_6
                    try clear hfz35_0
                    try clear hfz35_1
                    try clear hfz35_2
                    try clear hfz35_3
                    try clear hfz35_4
                    try clear hfz35_5
                    try clear hfz35_6
                    try clear hfz36_0
                    try clear hfz36_1
                    try clear hfz36_2
                    try clear hfz36_3
                    try clear hfz36_4
                    try clear hfz36_5
                    try clear hfz36_6
                    try clear hfz6_0
                    try clear hfz6_1
                    try clear hfz6_2
                    try clear hfz6_3
                    try clear hfz6_4
                    try clear hfz6_5
                    try clear hfz6_6
                    try clear hfz9_0
                    try clear hfz9_1
                    try clear hfz9_2
                    try clear hfz9_3
                    try clear hfz9_4
                    try clear hfz9_5
                    try clear hfz9_6
                    try clear p2
                    obtain ⟨x3_4, x4_4, rfl, rfl, HA, HK4, BK112, HB⟩ := hrel
                    cases gk with
                    | zero => exact absurd HA.out (by simp [laws_FnMarkdownSeparator.l0])
                    | succ k4 =>
                      have H := HA.out
                      clear HA
                      simp only [laws_FnMarkdownSeparator.l0] at H
                      by_cases c37 : x4_4 < a0_1
                      · rw [if_pos c37] at H
                        have c37b0 : decide (x4_4 < a0_1) = true := decide_eq_true c37
                        clear c37
                        by_cases c38 : a0_2 = true
                        · subst c38
                          have H1 : ((spec_At.f l0_4 x4_4).bind fun t118 => ((spec_At.f l0_3 x4_4).bind fun t119 => ((impl_TextAlignMarkdown.f k4 t118 (([t119] : List Int))).bind fun t123 => (if x3_4.size + t123.size ≤ 9223372036854775807 then (if (x3_4 ++ t123).size + 1 ≤ 9223372036854775807 then (laws_FnMarkdownSeparator.l0 k4 ((x3_4 ++ t123) ++ (⟨#[124]⟩ : ByteArray)) (wrap64 (x4_4 + 1)) l0_0 a0_1 true l0_3 l0_4 a0_5 a0_6) else (none)) else (none))))) = some r := by rw [if_pos rfl] at H; exact H
                          clear H
                          have H := H1
                          clear H1
                          replace H := Option.bind_eq_some_iff.mp H
                          obtain ⟨t118, A390, H⟩ := H
                          replace H : ((spec_At.f l0_3 x4_4).bind fun t119 => ((impl_TextAlignMarkdown.f k4 t118 (([t119] : List Int))).bind fun t123 => (if x3_4.size + t123.size ≤ 9223372036854775807 then (if (x3_4 ++ t123).size + 1 ≤ 9223372036854775807 then (laws_FnMarkdownSeparator.l0 k4 ((x3_4 ++ t123) ++ (⟨#[124]⟩ : ByteArray)) (wrap64 (x4_4 + 1)) l0_0 a0_1 true l0_3 l0_4 a0_5 a0_6) else (none)) else (none)))) = some r := H
                          have A39 := Aside0.mk A390
                          clear A390
                          replace H := Option.bind_eq_some_iff.mp H
                          obtain ⟨t119, A400, H⟩ := H
                          replace H : ((impl_TextAlignMarkdown.f k4 t118 (([t119] : List Int))).bind fun t123 => (if x3_4.size + t123.size ≤ 9223372036854775807 then (if (x3_4 ++ t123).size + 1 ≤ 9223372036854775807 then (laws_FnMarkdownSeparator.l0 k4 ((x3_4 ++ t123) ++ (⟨#[124]⟩ : ByteArray)) (wrap64 (x4_4 + 1)) l0_0 a0_1 true l0_3 l0_4 a0_5 a0_6) else (none)) else (none))) = some r := H
                          have A40 := Aside0.mk A400
                          clear A400
                          obtain ⟨y120, hy120⟩ : ∃ y_ : List Int, y_ = (([t119] : List Int)) := ⟨_, rfl⟩
                          replace H : ((impl_TextAlignMarkdown.f k4 t118 y120).bind fun t123 => (if x3_4.size + t123.size ≤ 9223372036854775807 then (if (x3_4 ++ t123).size + 1 ≤ 9223372036854775807 then (laws_FnMarkdownSeparator.l0 k4 ((x3_4 ++ t123) ++ (⟨#[124]⟩ : ByteArray)) (wrap64 (x4_4 + 1)) l0_0 a0_1 true l0_3 l0_4 a0_5 a0_6) else (none)) else (none))) = some r := by first | (rw [hy120]; with_reducible exact H) | (have H2_ := (Option.bind_some _ _).symm.trans H; rw [hy120]; with_reducible exact H2_) | (have H2_ := (Option.bind_some _ _).symm.trans H; with_reducible exact H2_) | with_reducible exact H | (rw [hy120]; exact H) | exact H
                          have Ny120 := Aside0.mk hy120
                          clear hy120
                          replace H := Option.bind_eq_some_iff.mp H
                          obtain ⟨t123, A410, H⟩ := H
                          replace H : (if x3_4.size + t123.size ≤ 9223372036854775807 then (if (x3_4 ++ t123).size + 1 ≤ 9223372036854775807 then (laws_FnMarkdownSeparator.l0 k4 ((x3_4 ++ t123) ++ (⟨#[124]⟩ : ByteArray)) (wrap64 (x4_4 + 1)) l0_0 a0_1 true l0_3 l0_4 a0_5 a0_6) else (none)) else (none)) = some r := H
                          have A41 := Aside0.mk A410
                          clear A410
                          by_cases c42 : x3_4.size + t123.size ≤ 9223372036854775807
                          · rw [if_pos c42] at H
                            have c42b0 := eq_true c42
                            have c42b1 : decide (x3_4.size + t123.size ≤ 9223372036854775807) = true := decide_eq_true c42
                            try have c42b2 : (9223372036854775807 < x3_4.size + t123.size) = False := eq_false (Nat.not_lt.2 c42)
                            by_cases c43 : (x3_4 ++ t123).size + 1 ≤ 9223372036854775807
                            · rw [if_pos c43] at H
                              have c43b0 := eq_true c43
                              have c43b1 : decide ((x3_4 ++ t123).size + 1 ≤ 9223372036854775807) = true := decide_eq_true c43
                              try have c43b2 : (9223372036854775807 < (x3_4 ++ t123).size + 1) = False := eq_false (Nat.not_lt.2 c43)
                              try have c43b3 : (9223372036854775807 < x3_4.size + t123.size + 1) = False := eq_false (Nat.not_lt.2 (by have z_ := c43; simp only [ByteArray.size_append] at z_; exact z_))
                              have H' := Aside0.mk H
                              clear H
                              have hcz44_0 : wr.cell? ⟨gb112, 0, none⟩ = some (.slice A0_0 l0_0.length c0_0) := (blk_cell BK112.out 0).trans rfl
                              have hcz44_1 : wr.cell? ⟨gb112, 1, none⟩ = some (.int .i64 a0_1) := (blk_cell BK112.out 1).trans rfl
                              have hcz44_2 : wr.cell? ⟨gb112, 2, none⟩ = some (.bool true) := (blk_cell BK112.out 2).trans rfl
                              have hcz44_3 : wr.cell? ⟨gb112, 3, none⟩ = some (.slice A0_3 l0_3.length c0_3) := (blk_cell BK112.out 3).trans rfl
                              have hcz44_4 : wr.cell? ⟨gb112, 4, none⟩ = some (.slice A0_4 l0_4.length c0_4) := (blk_cell BK112.out 4).trans rfl
                              have hcz44_5 : wr.cell? ⟨gb112, 5, none⟩ = some (.int .i64 a0_5) := (blk_cell BK112.out 5).trans rfl
                              have hcz44_6 : wr.cell? ⟨gb112, 6, none⟩ = some (.int .i64 a0_6) := (blk_cell BK112.out 6).trans rfl
                              have hfz44_0 := blk_frozen BK112.out 0
                              have hfz44_1 := blk_frozen BK112.out 1
                              have hfz44_2 := blk_frozen BK112.out 2
                              have hfz44_3 := blk_frozen BK112.out 3
                              have hfz44_4 := blk_frozen BK112.out 4
                              have hfz44_5 := blk_frozen BK112.out 5
                              have hfz44_6 := blk_frozen BK112.out 6
                              try go_wp2
                              have n0_ := Aside0.mk (blk_drew BK112.out)
                              have n1_ := Aside0.mk (below_drew1 HB.out)
                              clear BK112
                              clear HB
                              have BK112 := n0_
                              have HB := n1_
                              clear n0_ n1_
                              refine start_ (n := 14) (S := fun w' => w'.cell? ⟨gb112, 0, none⟩ = some (.slice A0_0 l0_0.length c0_0) ∧ w'.cell? ⟨gb112, 1, none⟩ = some (.int .i64 a0_1) ∧ w'.cell? ⟨gb112, 2, none⟩ = some (.bool true) ∧ w'.cell? ⟨gb112, 3, none⟩ = some (.slice A0_3 l0_3.length c0_3) ∧ w'.cell? ⟨gb112, 4, none⟩ = some (.slice A0_4 l0_4.length c0_4) ∧ w'.cell? ⟨gb112, 5, none⟩ = some (.int .i64 a0_5) ∧ w'.cell? ⟨gb112, 6, none⟩ = some (.int .i64 a0_6)) (ds := []) #[false, false, false, false, false, false, false, false, false, false, false, false, false, false] (by kernel_rfl) rfl rfl ⟨(blk_cell BK112.out 0).trans rfl, (blk_cell BK112.out 1).trans rfl, (blk_cell BK112.out 2).trans rfl, (blk_cell BK112.out 3).trans rfl, (blk_cell BK112.out 4).trans rfl, (blk_cell BK112.out 5).trans rfl, (blk_cell BK112.out 6).trans rfl⟩ (fun hHeld => ?_); refine with_tabW laws_FnMarkdownSeparator.tab14 laws_FnMarkdownSeparator.bits14 (fun HT_ HW_ => ?_)
                              generalize wr.drew = w45 at BK112 HB hHeld ⊢
                              refine pure_ (i := 0) (N := some 65) (v := ?_) (a' := ?_) #[true, false, false, false, false, false, false, false, false, false, false, false, false, false] rfl rfl (any_of HT_.out (by kernel_rfl)) (fun _ _ _ h => h) (Or.inl ⟨by rfl, ?_⟩) ?_ ?_
                              rotate_left
                              · intro w'
                                go_simp
                                with_reducible rfl
                              rotate_left
                              · simp only [Act.put, List.setIfInBounds_toArray, List.set_cons_zero, List.set_cons_succ, i64_w, i32_w]
                                rfl
                              refine pure_ (i := 1) (N := some 66) (v := ?_) (a' := ?_) #[true, true, false, false, false, false, false, false, false, false, false, false, false, false] rfl rfl (any_of HT_.out (by kernel_rfl)) (fun _ _ _ h => h) (Or.inl ⟨by rfl, ?_⟩) ?_ ?_
                              rotate_left
                              · intro w'
                                go_simp
                                with_reducible rfl
                              rotate_left
                              · simp only [Act.put, List.setIfInBounds_toArray, List.set_cons_zero, List.set_cons_succ, i64_w, i32_w]
                                rfl
                              refine pure_ (i := 3) (N := some 68) (v := ?_) (a' := ?_) #[true, true, false, true, false, false, false, false, false, false, false, false, false, false] rfl rfl (any_of HT_.out (by kernel_rfl)) (fun _ _ _ h => h) (Or.inl ⟨by rfl, ?_⟩) ?_ ?_
                              rotate_left
                              · intro w'
                                go_simp
                                with_reducible rfl
                              rotate_left
                              · simp only [Act.put, List.setIfInBounds_toArray, List.set_cons_zero, List.set_cons_succ, i64_w, i32_w]
                                rfl
                              refine pure_ (i := 5) (N := some 70) (v := ?_) (a' := ?_) #[true, true, false, true, false, true, false, false, false, false, false, false, false, false] rfl rfl (any_of HT_.out (by kernel_rfl)) (fun _ _ _ h => h) (Or.inl ⟨by rfl, ?_⟩) ?_ ?_
                              rotate_left
                              · intro w'
                                go_simp
                                with_reducible rfl
                              rotate_left
                              · simp only [Act.put, List.setIfInBounds_toArray, List.set_cons_zero, List.set_cons_succ, i64_w, i32_w]
                                rfl
                              refine pure_ (i := 7) (N := some 72) (v := ?_) (a' := ?_) #[true, true, false, true, false, true, false, true, false, false, false, false, false, false] rfl rfl (any_of HT_.out (by kernel_rfl)) (fun _ _ _ h => h) (Or.inl ⟨by rfl, ?_⟩) ?_ ?_
                              rotate_left
                              · intro w'
                                go_simp
                                with_reducible rfl
                              rotate_left
                              · simp only [Act.put, List.setIfInBounds_toArray, List.set_cons_zero, List.set_cons_succ, i64_w, i32_w]
                                rfl
                              refine take_ (i := 2) (N := some 67) (v := ?_) (a' := ?_) #[true, true, true, true, false, true, false, true, false, false, false, false, false, false] rfl rfl (take_ofW HT_.out HW_.out (by kernel_rfl)) (fun _ _ _ h => h) (Or.inl ⟨by rfl, ?_⟩) hHeld ?_ ?_
                              rotate_left
                              · rintro w' ⟨s0, s1, s2, s3, s4, s5, s6⟩
                                go_simp
                                with_reducible rfl
                              rotate_left
                              · simp only [Act.put, List.setIfInBounds_toArray, List.set_cons_zero, List.set_cons_succ, i64_w, i32_w]
                                rfl
                              refine take_ (i := 6) (N := some 71) (v := ?_) (a' := ?_) #[true, true, true, true, false, true, true, true, false, false, false, false, false, false] rfl rfl (take_ofW HT_.out HW_.out (by kernel_rfl)) (fun _ _ _ h => h) (Or.inl ⟨by rfl, ?_⟩) hHeld ?_ ?_
                              rotate_left
                              · rintro w' ⟨s0, s1, s2, s3, s4, s5, s6⟩
                                go_simp
                                with_reducible rfl
                              rotate_left
                              · simp only [Act.put, List.setIfInBounds_toArray, List.set_cons_zero, List.set_cons_succ, i64_w, i32_w]
                                rfl
                              refine one_ (i := 4) (N := some 69) #[true, true, true, true, true, true, true, true, false, false, false, false, false, false] rfl rfl (one_of HT_.out (by kernel_rfl)) (by decide) (fun K hK => ?_)
                              refine goes_ Try.func7 (by kernel_rfl) rfl #[.slice A0_4 l0_4.length c0_4, .int .i64 x4_4] (by rfl) rfl rfl (by (try simp only [List.map_toArray, List.map_cons, List.map_nil]); first | done | rfl | (simp only [List.length_drop, List.length_take]; rfl)) ?_
                              with_reducible refine (spec_At.calls _ _ l0_4 x4_4 t118 _ ?side1 ?side2 A39.out).mono ?_
                              (case side1 => repeat (first | exact (Kd.C_below HR0_4.out HB.out) | (with_reducible refine Kd.C_alloc ?_ _) | (with_reducible refine Kd.C_drewN ?_ _) | (with_reducible refine Kd.C_drew ?_)))
                              (case side2 => exact HC0_4.out)
                              rintro e w' ⟨rfl, ⟨nd, rfl⟩⟩
                              refine ⟨_, rfl, ?_⟩
                              refine hK.out _ _ ⟨(blk_cell BK112.out 0).trans rfl, (blk_cell BK112.out 1).trans rfl, (blk_cell BK112.out 2).trans rfl, (blk_cell BK112.out 3).trans rfl, (blk_cell BK112.out 4).trans rfl, (blk_cell BK112.out 5).trans rfl, (blk_cell BK112.out 6).trans rfl⟩ (fun hHeld => ?_)
                              clear hK K
                              refine norm_ (a' := ?_) ?_ ?_
                              rotate_left
                              · show Act.put _ (some 69) _ = _
                                simp only [Act.put, List.setIfInBounds_toArray, List.set_cons_zero, List.set_cons_succ, i64_w, i32_w]
                                rfl
                              refine one_ (i := 8) (N := some 73) #[true, true, true, true, true, true, true, true, true, false, false, false, false, false] rfl rfl (one_of HT_.out (by kernel_rfl)) (by decide) (fun K hK => ?_)
                              refine goes_ Try.func7 (by kernel_rfl) rfl #[.slice A0_3 l0_3.length c0_3, .int .i64 x4_4] (by rfl) rfl rfl (by (try simp only [List.map_toArray, List.map_cons, List.map_nil]); first | done | rfl | (simp only [List.length_drop, List.length_take]; rfl)) ?_
                              with_reducible refine (spec_At.calls _ _ l0_3 x4_4 t119 _ ?side1 ?side2 A40.out).mono ?_
                              (case side1 => repeat (first | exact (Kd.C_below HR0_3.out (by repeat (first | (with_reducible first | exact HB.out | apply below_alloc | apply pw_below_drewN | apply below_drew1 | refine below_set ?_ GE112.out) | exact HB.out))) | (with_reducible refine Kd.C_alloc ?_ _) | (with_reducible refine Kd.C_drewN ?_ _) | (with_reducible refine Kd.C_drew ?_)))
                              (case side2 => exact HC0_3.out)
                              rintro e w' ⟨rfl, ⟨nd, rfl⟩⟩
                              refine ⟨_, rfl, ?_⟩
                              refine hK.out _ _ ⟨(blk_cell BK112.out 0).trans rfl, (blk_cell BK112.out 1).trans rfl, (blk_cell BK112.out 2).trans rfl, (blk_cell BK112.out 3).trans rfl, (blk_cell BK112.out 4).trans rfl, (blk_cell BK112.out 5).trans rfl, (blk_cell BK112.out 6).trans rfl⟩ (fun hHeld => ?_)
                              clear hK K
                              refine norm_ (a' := ?_) ?_ ?_
                              rotate_left
                              · show Act.put _ (some 73) _ = _
                                simp only [Act.put, List.setIfInBounds_toArray, List.set_cons_zero, List.set_cons_succ, i64_w, i32_w]
                                rfl
                              refine one_ (i := 9) (N := some 74) #[true, true, true, true, true, true, true, true, true, true, false, false, false, false] rfl rfl (one_of HT_.out (by kernel_rfl)) (by decide) (fun K hK => ?_)
                              refine Kd.R_lit_step (Kd.int .i64) _ 3 ?hg (N := 74) ?hd (xs := ([t119] : List Int)) (inner := [.int .i64 t119]) (ok := fun _ => True) (okp := fun _ => True) ?hr ?hp (fun _ hk => hk) trivial (Below.refl _ _) (Nat.le_refl _) (by simp) ?_; (case hd => rfl); (case hg => rfl); (case hr => first | (go_simp; done) | (go_simp; rfl)); (case hp => exact (Reps.one (show Kd.M (Kd.int .i64) _ _ _ t119 [.int .i64 t119] from rfl) (Reps.none _ _)))
                              intro v121 w46 ho47 hb hg_ hnew_
                              clear hg_ hnew_
                              (first | rw [← Ny120.out] at ho47 | (simp only [Int.reduceToNat] at ho47; rw [← Ny120.out] at ho47))
                              have n0_ := Aside0.mk (Kd.R_lower ho47 (below_size (by repeat (first | (with_reducible first | exact HB.out | apply below_alloc | apply pw_below_drewN | apply below_drew1 | refine below_set ?_ GE112.out) | exact HB.out))))
                              have n1_ := Aside0.mk (blk_below (g := gb112) (o := .cells #[.slice A0_0 l0_0.length c0_0, .int .i64 a0_1, .bool true, .slice A0_3 l0_3.length c0_3, .slice A0_4 l0_4.length c0_4, .int .i64 a0_5, .int .i64 a0_6] 29 (0, 0)) (by (with_reducible repeat (first | refine blk_drewN ?_ _ | refine blk_drew ?_ | refine blk_alloc ?_ _)); exact BK112.out) hb)
                              have n2_ := Aside0.mk (below_step (by repeat (first | (with_reducible first | exact HB.out | apply below_alloc | apply pw_below_drewN | apply below_drew1 | refine below_set ?_ GE112.out) | exact HB.out)) hb)
                              clear BK112
                              clear HB
                              have HO122 := n0_
                              have BK112 := n1_
                              have HB := n2_
                              clear n0_ n1_ n2_
                              clear hb ho47
                              obtain ⟨Ao48, co48, eo48⟩ := Kd.R_slice HO122.out
                              (first | subst eo48 | (injection eo48 with f1_ f2_ f3_; have f4_ := f1_.symm; have f5_ := f3_.symm; clear f1_ f2_ f3_; subst f4_; subst f5_))
                              refine hK.out _ _ ⟨(blk_cell BK112.out 0).trans rfl, (blk_cell BK112.out 1).trans rfl, (blk_cell BK112.out 2).trans rfl, (blk_cell BK112.out 3).trans rfl, (blk_cell BK112.out 4).trans rfl, (blk_cell BK112.out 5).trans rfl, (blk_cell BK112.out 6).trans rfl⟩ (fun hHeld => ?_)
                              clear hK K
                              refine norm_ (a' := ?_) ?_ ?_
                              rotate_left
                              · show Act.put _ (some 74) _ = _
                                simp only [Act.put, List.setIfInBounds_toArray, List.set_cons_zero, List.set_cons_succ, i64_w, i32_w]
                                rfl
                              refine one_ (i := 10) (N := some 75) #[true, true, true, true, true, true, true, true, true, true, true, false, false, false] rfl rfl (one_of HT_.out (by kernel_rfl)) (by decide) (fun K hK => ?_)
                              refine goes_ Try.func10 (by kernel_rfl) rfl #[.int .i64 t118, .slice Ao48 y120.length co48] (by rfl) rfl rfl (by (try simp only [List.map_toArray, List.map_cons, List.map_nil]); first | done | rfl | (simp only [List.length_drop, List.length_take]; rfl)) ?_
                              with_reducible refine (impl_TextAlignMarkdown.calls k4 t118 _ _ y120 t123 _ ?side1 ?side2 A41.out).mono ?_
                              (case side1 => repeat (first | exact (Kd.R_reads' HO122.out).2.2 | (with_reducible refine Kd.C_alloc ?_ _) | (with_reducible refine Kd.C_drewN ?_ _) | (with_reducible refine Kd.C_drew ?_)))
                              (case side2 => exact (Kd.R_reads' HO122.out).2.1)
                              rintro e w49 ⟨rfl, hb⟩
                              refine ⟨_, rfl, ?_⟩
                              have n0_ := Aside0.mk (Kd.R_below (by (with_reducible repeat (first | apply Kd.R_alloc | apply Kd.R_drewN | apply Kd.R_drew)); exact HO122.out) hb)
                              have n1_ := Aside0.mk (blk_below (g := gb112) (o := .cells #[.slice A0_0 l0_0.length c0_0, .int .i64 a0_1, .bool true, .slice A0_3 l0_3.length c0_3, .slice A0_4 l0_4.length c0_4, .int .i64 a0_5, .int .i64 a0_6] 29 (0, 0)) (by (with_reducible repeat (first | refine blk_drewN ?_ _ | refine blk_drew ?_ | refine blk_alloc ?_ _)); exact BK112.out) hb)
                              have n2_ := Aside0.mk (below_step (by repeat (first | (with_reducible first | exact HB.out | apply below_alloc | apply pw_below_drewN | apply below_drew1 | refine below_set ?_ GE112.out) | exact HB.out)) hb)
                              clear HO122
                              clear BK112
                              clear HB
                              have HO122 := n0_
                              have BK112 := n1_
                              have HB := n2_
                              clear n0_ n1_ n2_
                              (try clear hb)
                              (try clear hb2)
                              (try clear hk)
                              (try clear hi)
                              refine hK.out _ _ ⟨(blk_cell BK112.out 0).trans rfl, (blk_cell BK112.out 1).trans rfl, (blk_cell BK112.out 2).trans rfl, (blk_cell BK112.out 3).trans rfl, (blk_cell BK112.out 4).trans rfl, (blk_cell BK112.out 5).trans rfl, (blk_cell BK112.out 6).trans rfl⟩ (fun hHeld => ?_)
                              clear hK K
                              refine norm_ (a' := ?_) ?_ ?_
                              rotate_left
                              · show Act.put _ (some 75) _ = _
                                simp only [Act.put, List.setIfInBounds_toArray, List.set_cons_zero, List.set_cons_succ, i64_w, i32_w]
                                rfl
                              refine pure_ (i := 11) (N := some 76) (v := ?_) (a' := ?_) #[true, true, true, true, true, true, true, true, true, true, true, true, false, false] rfl rfl (any_of HT_.out (by kernel_rfl)) (fun _ _ _ h => h) (Or.inl ⟨by rfl, ?_⟩) ?_ ?_
                              rotate_left
                              · intro w'
                                go_simp
                                with_reducible rfl
                              rotate_left
                              · simp only [Act.put, List.setIfInBounds_toArray, List.set_cons_zero, List.set_cons_succ, i64_w, i32_w]
                                rfl
                              refine pure_ (i := 12) (N := some 77) (v := ?_) (a' := ?_) #[true, true, true, true, true, true, true, true, true, true, true, true, true, false] rfl rfl (any_of HT_.out (by kernel_rfl)) (fun _ _ _ h => h) (Or.inl ⟨by rfl, ?_⟩) ?_ ?_
                              rotate_left
                              · intro w'
                                go_simp
                                with_reducible rfl
                              rotate_left
                              · simp only [Act.put, List.setIfInBounds_toArray, List.set_cons_zero, List.set_cons_succ, i64_w, i32_w]
                                rfl
                              refine pure_ (i := 13) (N := some 3) (v := ?_) (a' := ?_) #[true, true, true, true, true, true, true, true, true, true, true, true, true, true] rfl rfl (any_of HT_.out (by kernel_rfl)) (fun _ _ _ h => h) (Or.inl ⟨by rfl, ?_⟩) ?_ ?_
                              rotate_left
                              · intro w'
                                go_simp
                                with_reducible rfl
                              rotate_left
                              · simp only [Act.put, List.setIfInBounds_toArray, List.set_cons_zero, List.set_cons_succ, i64_w, i32_w]
                                rfl
                              refine done_ (done_of HT_.out (by kernel_rfl)) ?_
                              try go_wp2
                              go_roundg k4
                              case measure => have := HJ3.out; have := HJ21.out; have := HJ25.out; have := HK4.out; omega
                              case rel => exact ⟨((x3_4 ++ t123) ++ (⟨#[124]⟩ : ByteArray)), (wrap64 (x4_4 + 1)), (by first | rfl | (simp; done) | (simp [*]; done)), (by first | rfl | (simp; done) | (simp [*]; done)), H', ⟨by have := HJ3.out; have := HJ21.out; have := HJ25.out; have := HK4.out; omega⟩, ⟨by (with_reducible repeat (first | refine blk_drewN ?_ _ | refine blk_drew ?_ | refine blk_alloc ?_ _)); exact BK112.out⟩, ⟨by repeat (first | (with_reducible first | exact HB.out | apply below_alloc | apply pw_below_drewN | apply below_drew1 | refine below_set ?_ GE112.out) | exact HB.out)⟩⟩
                            · rw [if_neg c43] at H
                              exact absurd H (by simp)
                          · rw [if_neg c42] at H
                            exact absurd H (by simp)
                        · replace c38 := Bool.eq_false_iff.mpr c38
                          subst c38
                          have H1 : ((spec_At.f l0_4 x4_4).bind fun t124 => ((impl_TextAlignMarkdown.f k4 t124 ([] : List Int)).bind fun t125 => (if x3_4.size + t125.size ≤ 9223372036854775807 then (if (x3_4 ++ t125).size + 1 ≤ 9223372036854775807 then (laws_FnMarkdownSeparator.l0 k4 ((x3_4 ++ t125) ++ (⟨#[124]⟩ : ByteArray)) (wrap64 (x4_4 + 1)) l0_0 a0_1 false l0_3 l0_4 a0_5 a0_6) else (none)) else (none)))) = some r := by rw [if_neg (show ¬ (false = true) by decide)] at H; exact H
                          clear H
                          have H := H1
                          clear H1
                          replace H := Option.bind_eq_some_iff.mp H
                          obtain ⟨t124, A500, H⟩ := H
                          replace H : ((impl_TextAlignMarkdown.f k4 t124 ([] : List Int)).bind fun t125 => (if x3_4.size + t125.size ≤ 9223372036854775807 then (if (x3_4 ++ t125).size + 1 ≤ 9223372036854775807 then (laws_FnMarkdownSeparator.l0 k4 ((x3_4 ++ t125) ++ (⟨#[124]⟩ : ByteArray)) (wrap64 (x4_4 + 1)) l0_0 a0_1 false l0_3 l0_4 a0_5 a0_6) else (none)) else (none))) = some r := H
                          have A50 := Aside0.mk A500
                          clear A500
                          replace H := Option.bind_eq_some_iff.mp H
                          obtain ⟨t125, A510, H⟩ := H
                          replace H : (if x3_4.size + t125.size ≤ 9223372036854775807 then (if (x3_4 ++ t125).size + 1 ≤ 9223372036854775807 then (laws_FnMarkdownSeparator.l0 k4 ((x3_4 ++ t125) ++ (⟨#[124]⟩ : ByteArray)) (wrap64 (x4_4 + 1)) l0_0 a0_1 false l0_3 l0_4 a0_5 a0_6) else (none)) else (none)) = some r := H
                          have A51 := Aside0.mk A510
                          clear A510
                          by_cases c52 : x3_4.size + t125.size ≤ 9223372036854775807
                          · rw [if_pos c52] at H
                            have c52b0 := eq_true c52
                            have c52b1 : decide (x3_4.size + t125.size ≤ 9223372036854775807) = true := decide_eq_true c52
                            try have c52b2 : (9223372036854775807 < x3_4.size + t125.size) = False := eq_false (Nat.not_lt.2 c52)
                            by_cases c53 : (x3_4 ++ t125).size + 1 ≤ 9223372036854775807
                            · rw [if_pos c53] at H
                              have c53b0 := eq_true c53
                              have c53b1 : decide ((x3_4 ++ t125).size + 1 ≤ 9223372036854775807) = true := decide_eq_true c53
                              try have c53b2 : (9223372036854775807 < (x3_4 ++ t125).size + 1) = False := eq_false (Nat.not_lt.2 c53)
                              try have c53b3 : (9223372036854775807 < x3_4.size + t125.size + 1) = False := eq_false (Nat.not_lt.2 (by have z_ := c53; simp only [ByteArray.size_append] at z_; exact z_))
                              have H' := Aside0.mk H
                              clear H
                              have hcz54_0 : wr.cell? ⟨gb112, 0, none⟩ = some (.slice A0_0 l0_0.length c0_0) := (blk_cell BK112.out 0).trans rfl
                              have hcz54_1 : wr.cell? ⟨gb112, 1, none⟩ = some (.int .i64 a0_1) := (blk_cell BK112.out 1).trans rfl
                              have hcz54_2 : wr.cell? ⟨gb112, 2, none⟩ = some (.bool false) := (blk_cell BK112.out 2).trans rfl
                              have hcz54_3 : wr.cell? ⟨gb112, 3, none⟩ = some (.slice A0_3 l0_3.length c0_3) := (blk_cell BK112.out 3).trans rfl
                              have hcz54_4 : wr.cell? ⟨gb112, 4, none⟩ = some (.slice A0_4 l0_4.length c0_4) := (blk_cell BK112.out 4).trans rfl
                              have hcz54_5 : wr.cell? ⟨gb112, 5, none⟩ = some (.int .i64 a0_5) := (blk_cell BK112.out 5).trans rfl
                              have hcz54_6 : wr.cell? ⟨gb112, 6, none⟩ = some (.int .i64 a0_6) := (blk_cell BK112.out 6).trans rfl
                              have hfz54_0 := blk_frozen BK112.out 0
                              have hfz54_1 := blk_frozen BK112.out 1
                              have hfz54_2 := blk_frozen BK112.out 2
                              have hfz54_3 := blk_frozen BK112.out 3
                              have hfz54_4 := blk_frozen BK112.out 4
                              have hfz54_5 := blk_frozen BK112.out 5
                              have hfz54_6 := blk_frozen BK112.out 6
                              go_wp2_with (first | ((with_reducible refine gate_callee (f := 7) rfl ?_); refine goesL_ (some 82) rfl rfl Try.func7 (by kernel_rfl) rfl #[.slice A0_4 l0_4.length c0_4, .int .i64 x4_4] rfl (by (try simp only [List.map_toArray, List.map_cons, List.map_nil]); first | done | rfl | (simp only [List.length_drop, List.length_take]; rfl)) ?_; (with_reducible refine (spec_At.calls _ _ l0_4 x4_4 t124 _ ?side1 ?side2 A50.out).mono ?_); (case side1 => repeat (first | exact (Kd.C_below HR0_4.out HB.out) | (with_reducible refine Kd.C_alloc ?_ _) | (with_reducible refine Kd.C_drewN ?_ _) | (with_reducible refine Kd.C_drew ?_))); (case side2 => exact HC0_4.out); rintro e w' ⟨rfl, ⟨nd, rfl⟩⟩; refine ⟨_, rfl, ?_⟩) | ((with_reducible refine gate_callee (f := 10) rfl ?_); refine goesL_ (some 83) rfl rfl Try.func10 (by kernel_rfl) rfl #[.int .i64 t124, .slice none 0 0] rfl (by (try simp only [List.map_toArray, List.map_cons, List.map_nil]); first | done | rfl | (simp only [List.length_drop, List.length_take]; rfl)) ?_; (refine (impl_TextAlignMarkdown.calls k4 t124 _ _ ([] : List Int) t125 _ ?side1 ?side2 A51.out).mono ?_); (case side1 => exact Kd.C_nil _ _); (case side2 => exact Nat.le_refl _); rintro e w55 ⟨rfl, hb⟩; refine ⟨_, rfl, ?_⟩; have n0_ := Aside0.mk (blk_below (g := gb112) (o := .cells #[.slice A0_0 l0_0.length c0_0, .int .i64 a0_1, .bool false, .slice A0_3 l0_3.length c0_3, .slice A0_4 l0_4.length c0_4, .int .i64 a0_5, .int .i64 a0_6] 29 (0, 0)) (by (with_reducible repeat (first | refine blk_drewN ?_ _ | refine blk_drew ?_ | refine blk_alloc ?_ _)); exact BK112.out) hb); have n1_ := Aside0.mk (below_step (by repeat (first | (with_reducible first | exact HB.out | apply below_alloc | apply pw_below_drewN | apply below_drew1 | refine below_set ?_ GE112.out) | exact HB.out)) hb); clear BK112; clear HB; have BK112 := n0_; have HB := n1_; clear n0_ n1_; (try clear hb); (try clear hb2); (try clear hk); (try clear hi)))
                              go_roundg k4
                              case measure => have := HJ3.out; have := HJ21.out; have := HJ25.out; have := HK4.out; omega
                              case rel => exact ⟨((x3_4 ++ t125) ++ (⟨#[124]⟩ : ByteArray)), (wrap64 (x4_4 + 1)), (by first | rfl | (simp; done) | (simp [*]; done)), (by first | rfl | (simp; done) | (simp [*]; done)), H', ⟨by have := HJ3.out; have := HJ21.out; have := HJ25.out; have := HK4.out; omega⟩, ⟨by (with_reducible repeat (first | refine blk_drewN ?_ _ | refine blk_drew ?_ | refine blk_alloc ?_ _)); exact BK112.out⟩, ⟨by repeat (first | (with_reducible first | exact HB.out | apply below_alloc | apply pw_below_drewN | apply below_drew1 | refine below_set ?_ GE112.out) | exact HB.out)⟩⟩
                            · rw [if_neg c53] at H
                              exact absurd H (by simp)
                          · rw [if_neg c52] at H
                            exact absurd H (by simp)
                      · rw [if_neg c37] at H
                        have c37b0 : decide (x4_4 < a0_1) = false := decide_eq_false c37
                        clear c37
                        replace H := Option.bind_eq_some_iff.mp H
                        obtain ⟨t117, A560, H⟩ := H
                        replace H : (some (t117.toList == x3_4.toList)) = some r := H
                        have A56 := Aside0.mk A560
                        clear A560
                        obtain rfl := Option.some.inj H
                        have hcz57_0 : wr.cell? ⟨gb112, 0, none⟩ = some (.slice A0_0 l0_0.length c0_0) := (blk_cell BK112.out 0).trans rfl
                        have hcz57_1 : wr.cell? ⟨gb112, 1, none⟩ = some (.int .i64 a0_1) := (blk_cell BK112.out 1).trans rfl
                        have hcz57_2 : wr.cell? ⟨gb112, 2, none⟩ = some (.bool a0_2) := (blk_cell BK112.out 2).trans rfl
                        have hcz57_3 : wr.cell? ⟨gb112, 3, none⟩ = some (.slice A0_3 l0_3.length c0_3) := (blk_cell BK112.out 3).trans rfl
                        have hcz57_4 : wr.cell? ⟨gb112, 4, none⟩ = some (.slice A0_4 l0_4.length c0_4) := (blk_cell BK112.out 4).trans rfl
                        have hcz57_5 : wr.cell? ⟨gb112, 5, none⟩ = some (.int .i64 a0_5) := (blk_cell BK112.out 5).trans rfl
                        have hcz57_6 : wr.cell? ⟨gb112, 6, none⟩ = some (.int .i64 a0_6) := (blk_cell BK112.out 6).trans rfl
                        have hfz57_0 := blk_frozen BK112.out 0
                        have hfz57_1 := blk_frozen BK112.out 1
                        have hfz57_2 := blk_frozen BK112.out 2
                        have hfz57_3 := blk_frozen BK112.out 3
                        have hfz57_4 := blk_frozen BK112.out 4
                        have hfz57_5 := blk_frozen BK112.out 5
                        have hfz57_6 := blk_frozen BK112.out 6
                        go_wp2_with (first | ((with_reducible refine gate_callee (f := 11) rfl ?_); refine goesL_ (some 87) rfl rfl Try.func11 (by kernel_rfl) rfl #[.agg #[.slice A0_0 l0_0.length c0_0, .int .i64 a0_1, .bool a0_2, .slice A0_3 l0_3.length c0_3, .slice A0_4 l0_4.length c0_4, .int .i64 a0_5, .int .i64 a0_6]] rfl (by (try simp only [List.map_toArray, List.map_cons, List.map_nil]); first | done | rfl | (simp only [List.length_drop, List.length_take]; rfl)) ?_; (with_reducible refine (impl_MarkdownSeparator.calls _ _ l0_0 a0_1 a0_2 _ _ l0_3 _ _ l0_4 a0_5 a0_6 t117 _ ?side1 ?side2 ?side3 ?side4 ?side5 ?side6 A56.out).mono ?_); (case side1 => repeat (first | exact (Kd.C_below HR0_0.out HB.out) | (with_reducible refine Kd.C_alloc ?_ _) | (with_reducible refine Kd.C_drewN ?_ _) | (with_reducible refine Kd.C_drew ?_))); (case side2 => exact HC0_0.out); (case side3 => repeat (first | exact (Kd.C_below HR0_3.out HB.out) | (with_reducible refine Kd.C_alloc ?_ _) | (with_reducible refine Kd.C_drewN ?_ _) | (with_reducible refine Kd.C_drew ?_))); (case side4 => exact HC0_3.out); (case side5 => repeat (first | exact (Kd.C_below HR0_4.out HB.out) | (with_reducible refine Kd.C_alloc ?_ _) | (with_reducible refine Kd.C_drewN ?_ _) | (with_reducible refine Kd.C_drew ?_))); (case side6 => exact HC0_4.out); rintro e w58 ⟨rfl, hb⟩; refine ⟨_, rfl, ?_⟩; have n0_ := Aside0.mk (blk_below (g := gb112) (o := .cells #[.slice A0_0 l0_0.length c0_0, .int .i64 a0_1, .bool a0_2, .slice A0_3 l0_3.length c0_3, .slice A0_4 l0_4.length c0_4, .int .i64 a0_5, .int .i64 a0_6] 29 (0, 0)) (by (with_reducible repeat (first | refine blk_drewN ?_ _ | refine blk_drew ?_ | refine blk_alloc ?_ _)); exact BK112.out) hb); have n1_ := Aside0.mk (below_step (by repeat (first | (with_reducible first | exact HB.out | apply below_alloc | apply pw_below_drewN | apply below_drew1 | refine below_set ?_ GE112.out) | exact HB.out)) hb); clear BK112; clear HB; have BK112 := n0_; have HB := n1_; clear n0_ n1_; (try clear hb); (try clear hb2); (try clear hk); (try clear hi)))
                        go_ret
                        exact ⟨by first | rfl | (simp [errW_none, errW_some] <;> rfl) | (simp [*, errW_none, errW_some] <;> rfl), by repeat (first | (with_reducible first | exact HB.out | apply below_alloc | apply pw_below_drewN | apply below_drew1 | refine below_set ?_ GE112.out) | exact HB.out)⟩
  · replace c3 := Bool.eq_false_iff.mpr c3
    subst c3
    have H1 : (some true) = some r := by rw [if_neg (show ¬ (false = true) by decide)] at H; exact H
    clear H
    have H := H1
    clear H1
    obtain rfl := Option.some.inj H
    go_enter Try.func4, Try.ntmps4
    go_wp2_with (first | ((with_reducible refine gate_dst (N := 1) rfl ?_); refine box_event ?hg (N := 1) ?hd (cs := #[.slice A0_0 l0_0.length c0_0, .int .i64 a0_1, .bool a0_2, .slice A0_3 l0_3.length c0_3, .slice A0_4 l0_4.length c0_4, .int .i64 a0_5, .int .i64 a0_6]) (t := 29) ?hr ?_; (case hd => rfl); (case hg => rfl); (case hr => first | (go_simp; done) | (go_simp; rfl)); intro gb112 hg w59 hbox hb; have n0_ := Aside0.mk (below_step (by repeat (first | (with_reducible first | exact HB.out | apply below_alloc | apply pw_below_drewN | apply below_drew1) | exact HB.out)) hb); have n1_ := Aside0.mk (hbox); have n2_ := Aside0.mk ((by rw [hg]; exact (below_size (by repeat (first | (with_reducible first | exact HB.out | apply below_alloc | apply pw_below_drewN | apply below_drew1) | exact HB.out))) : w.heap.size ≤ gb112)); have n3_ := Aside0.mk ((by rw [hg]; exact (below_size (by repeat (first | (with_reducible first | exact HB.out | apply below_alloc | apply pw_below_drewN | apply below_drew1) | exact HB.out))) : w.heap.size ≤ gb112)); clear HB; have HB := n0_; have BK112 := n1_; have GW112 := n2_; have GE112 := n3_; clear n0_ n1_ n2_ n3_; clear hb hbox hg; have hcz60_0 : w59.cell? ⟨gb112, 0, none⟩ = some (.slice A0_0 l0_0.length c0_0) := (blk_cell BK112.out 0).trans rfl; have hcz60_1 : w59.cell? ⟨gb112, 1, none⟩ = some (.int .i64 a0_1) := (blk_cell BK112.out 1).trans rfl; have hcz60_2 : w59.cell? ⟨gb112, 2, none⟩ = some (.bool a0_2) := (blk_cell BK112.out 2).trans rfl; have hcz60_3 : w59.cell? ⟨gb112, 3, none⟩ = some (.slice A0_3 l0_3.length c0_3) := (blk_cell BK112.out 3).trans rfl; have hcz60_4 : w59.cell? ⟨gb112, 4, none⟩ = some (.slice A0_4 l0_4.length c0_4) := (blk_cell BK112.out 4).trans rfl; have hcz60_5 : w59.cell? ⟨gb112, 5, none⟩ = some (.int .i64 a0_5) := (blk_cell BK112.out 5).trans rfl; have hcz60_6 : w59.cell? ⟨gb112, 6, none⟩ = some (.int .i64 a0_6) := (blk_cell BK112.out 6).trans rfl; have hfz60_0 := blk_frozen BK112.out 0; have hfz60_1 := blk_frozen BK112.out 1; have hfz60_2 := blk_frozen BK112.out 2; have hfz60_3 := blk_frozen BK112.out 3; have hfz60_4 := blk_frozen BK112.out 4; have hfz60_5 := blk_frozen BK112.out 5; have hfz60_6 := blk_frozen BK112.out 6) | ((with_reducible refine gate_callee (f := 8) rfl ?_); refine goesL_ (some 6) rfl rfl Try.func8 (by kernel_rfl) rfl #[.agg #[.slice A0_0 l0_0.length c0_0, .int .i64 a0_1, .bool a0_2, .slice A0_3 l0_3.length c0_3, .slice A0_4 l0_4.length c0_4, .int .i64 a0_5, .int .i64 a0_6]] rfl (by (try simp only [List.map_toArray, List.map_cons, List.map_nil]); first | done | rfl | (simp only [List.length_drop, List.length_take]; rfl)) ?_; (with_reducible refine (laws_zzFits21.calls k _ _ l0_0 a0_1 a0_2 _ _ l0_3 _ _ l0_4 a0_5 a0_6 false _ ?side1 ?side2 ?side3 ?side4 ?side5 ?side6 A2.out).mono ?_); (case side1 => repeat (first | exact (Kd.C_below HR0_0.out HB.out) | (with_reducible refine Kd.C_alloc ?_ _) | (with_reducible refine Kd.C_drewN ?_ _) | (with_reducible refine Kd.C_drew ?_))); (case side2 => exact HC0_0.out); (case side3 => repeat (first | exact (Kd.C_below HR0_3.out HB.out) | (with_reducible refine Kd.C_alloc ?_ _) | (with_reducible refine Kd.C_drewN ?_ _) | (with_reducible refine Kd.C_drew ?_))); (case side4 => exact HC0_3.out); (case side5 => repeat (first | exact (Kd.C_below HR0_4.out HB.out) | (with_reducible refine Kd.C_alloc ?_ _) | (with_reducible refine Kd.C_drewN ?_ _) | (with_reducible refine Kd.C_drew ?_))); (case side6 => exact HC0_4.out); rintro e w61 ⟨rfl, hb⟩; refine ⟨_, rfl, ?_⟩; have n0_ := Aside0.mk (blk_below (g := gb112) (o := .cells #[.slice A0_0 l0_0.length c0_0, .int .i64 a0_1, .bool a0_2, .slice A0_3 l0_3.length c0_3, .slice A0_4 l0_4.length c0_4, .int .i64 a0_5, .int .i64 a0_6] 29 (0, 0)) (by (with_reducible repeat (first | refine blk_drewN ?_ _ | refine blk_drew ?_ | refine blk_alloc ?_ _)); exact BK112.out) hb); have n1_ := Aside0.mk (below_step (by repeat (first | (with_reducible first | exact HB.out | apply below_alloc | apply pw_below_drewN | apply below_drew1 | refine below_set ?_ GE112.out) | exact HB.out)) hb); clear BK112; clear HB; have BK112 := n0_; have HB := n1_; clear n0_ n1_; (try clear hb); (try clear hb2); (try clear hk); (try clear hi)))
    go_ret
    exact ⟨by first | rfl | (simp [errW_none, errW_some] <;> rfl) | (simp [*, errW_none, errW_some] <;> rfl), by repeat (first | (with_reducible first | exact HB.out | apply below_alloc | apply pw_below_drewN | apply below_drew1 | refine below_set ?_ GE112.out) | exact HB.out)⟩

def laws_FnMarkdownSeparator.Pure : Prop := ∀ (l0_0 : List ByteArray) (a0_1 : Int) (a0_2 : Bool) (l0_3 : List Int) (l0_4 : List Int) (a0_5 : Int) (a0_6 : Int), (l0_0.length * 16 ≤ 140737488351232 ∧ l0_0.length ≤ maxLen ∧ ∀ yl0_0 ∈ l0_0, yl0_0.size ≤ 140737488351232) → (Lit.int .i64 a0_1).wf = true → (l0_3.length * 8 ≤ 140737488351232 ∧ l0_3.length ≤ maxLen ∧ ∀ yl0_3 ∈ l0_3, (Lit.int .i64 yl0_3).wf = true) → (l0_4.length * 8 ≤ 140737488351232 ∧ l0_4.length ≤ maxLen ∧ ∀ yl0_4 ∈ l0_4, (Lit.int .i64 yl0_4).wf = true) → (Lit.int .i64 a0_5).wf = true → (Lit.int .i64 a0_6).wf = true → ∃ k, laws_FnMarkdownSeparator.f k l0_0 a0_1 a0_2 l0_3 l0_4 a0_5 a0_6 = some true

end Go.Proofs.Ytedknmaaaaomoaa.PFnMarkdownSeparator
