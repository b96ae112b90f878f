/- A decimal times 2 to the power k, of either sign. -/
import Derived.Test.YtnmochachiieaaaDoorHandPg
namespace Go.Proofs.YtnmochachiieaaaDoor.Hand
open Go.RowKit Go.Proofs.YtnmochachiieaaaDoorW.PrintWords Go.Proofs.YtnmochachiieaaaDoorW.PrintLast Go.Proofs.YtnmochachiieaaaDoorW.PrintMore Go.Proofs.YtnmochachiieaaaDoor.Base
open Go.Proofs.YtnmochachiieaaaDoor.Pf
set_option linter.unusedVariables false
set_option linter.unusedSimpArgs false

set_option maxHeartbeats 4000000 in
set_option maxRecDepth 100000 in
theorem shiftUp_ (w0 w : World) (B D : Nat) (a b : Dc) (k F G : Nat) (H : DecN w0 B w D a) (hN : Norm a) (hs : shiftF F G a (k : Int) = some b) (hk : k ≤ 1000000000) (hl : a.d.length ≤ 100000000) (hp : -100000000000 ≤ a.dp ∧ a.dp ≤ 100000000000) (hG : G ≤ 1000000) :
    Calls Tryd.prog 40 #[.pointer (some ⟨D, 0, none⟩), .int .i64 (k : Int)] w fun r w' => r = .returned (.tuple #[]) ∧ DecN w0 B w' D b := by
  have HH := Aside0.mk H
  have HNN := Aside0.mk hN
  obtain ⟨c, j, hu, hb⟩ : ∃ c j, upF (G + 1) a k = some (c, j) ∧ b = (if j = 0 then c else dblC c j) := by
    rw [shiftF, if_pos (by omega), Int.toNat_natCast] at hs
    rcases hQ : upF (G + 1) a k with _ | ⟨c, j⟩
    · rw [hQ] at hs; cases hs
    · rw [hQ] at hs
      exact ⟨c, j, rfl, by simpa using hs.symm⟩
  have HU := Aside0.mk hu
  have HBB := Aside0.mk hb
  clear H hN hs hu hb
  go_enter Tryd.func40, Tryd.ntmps40
  go_wp2
  go_loopg [1] (G + 1) (fun kq v1 w' => ∃ (m : Nat) (x : Dc), v1 = .int .i64 (m : Int) ∧ Aside0 (m ≤ k) ∧ Aside0 (upF kq x m = some (c, j)) ∧ Aside0 (Norm x) ∧ Aside0 (x.d.length + 20 * kq ≤ a.d.length + 20 * (G + 1)) ∧ Aside0 (a.dp ≤ x.dp ∧ x.dp + 20 * kq ≤ a.dp + 20 * (G + 1)) ∧ Aside0 (DecN w0 B w' D x))
  case atStart => exact ⟨k, a, rfl, ⟨Nat.le_refl _⟩, HU, HNN, ⟨Nat.le_refl _⟩, ⟨Int.le_refl _, by simp⟩, HH⟩
  case round =>
    obtain ⟨m, x, rfl, HM, HT, HX, HL, HP, HD⟩ := hrel
    obtain ⟨kq, hkq⟩ : ∃ kq, gk = kq + 1 := by
      rcases gk with _ | kq
      · have := HT.out; rw [upF] at this; cases this
      · exact ⟨kq, rfl⟩
    have HKQ := Aside0.mk hkq
    have hT := HT.out
    rw [hkq, upF] at hT
    have hmk := HM.out
    have hL := HL.out
    have hP := HP.out
    have hxl : x.d.length ≤ 1000000000 := by omega
    have hxp : -1000000000000 ≤ x.dp ∧ x.dp ≤ 1000000000000 := by omega
    by_cases h59 : 59 < m
    · rw [if_pos h59] at hT
      have HT2 := Aside0.mk hT
      have g1 : decide ((59 : Int) < (m : Int)) = true := decide_eq_true (by omega)
      have g2 : decide (59 < m) = true := decide_eq_true (by omega)
      have e1 : IntKind.i64.wrap ((m : Int) - 59) = ((m - 59 : Nat) : Int) := by rw [Go.IntWalk.i64_in _ (by omega)]; omega
      have HXL := Aside0.mk hxl
      have HXP := Aside0.mk hxp
      have H59 := Aside0.mk h59
      clear hT hkq hL hP hxl hxp h59
      go_wp2_with ((go_at_call 43; go_loud (refine (double_ w0 _ B D x 59 HD.out (by decide) HX.out.1 HXL.out HXP.out).mono ?_; rintro e w4 ⟨rfl, hd4⟩; have D4 := Aside0.mk hd4; clear hd4)))
      go_roundg kq
      case measure => have := HKQ.out; omega
      case rel =>
        obtain ⟨n1, n2, n3, _⟩ := HX.out.dbl 59 (by omega)
        have := HKQ.out; have := HL.out; have := HP.out; have := H59.out; have := HM.out
        exact ⟨m - 59, dblC x 59, by go_num, ⟨by omega⟩, HT2, ⟨n1⟩, ⟨by omega⟩, ⟨by omega, by omega⟩, D4⟩
    · rw [if_neg h59] at hT
      have g1 : decide ((59 : Int) < (m : Int)) = false := decide_eq_false (by omega)
      have g2 : decide (59 < m) = false := decide_eq_false (by omega)
      have hT2 : x = c ∧ m = j := by simpa using hT
      obtain ⟨rfl, rfl⟩ := hT2
      have HXL := Aside0.mk hxl
      have HXP := Aside0.mk hxp
      have H59 := Aside0.mk h59
      clear hT hkq hL hP hxl hxp h59
      go_wp2
      go_loopg [1] 0 (fun kq v1 w' => v1 = .int .i64 (m : Int) ∧ Aside0 (w' = wr))
      case atStart => exact ⟨rfl, ⟨rfl⟩⟩
      case round =>
        obtain ⟨rfl, HW⟩ := hrel
        obtain rfl := HW.out
        have g3 : decide ((m : Int) < -59) = false := decide_eq_false (by omega)
        by_cases hm0 : m = 0
        · subst hm0
          go_wp2
          go_end0
          refine ⟨rfl, ?_⟩
          have h9 := HBB.out
          rw [if_pos trivial] at h9
          rw [h9]
          exact HD.out
        · have g4 : decide ((0 : Int) < (m : Int)) = true := decide_eq_true (by omega)
          have g5 : decide (0 < m) = true := decide_eq_true (by omega)
          have HM0 := Aside0.mk hm0
          clear hm0
          go_wp2_with ((go_at_call 43; go_loud (refine (double_ w0 _ B D x m HD.out (by have := H59.out; omega) HX.out.1 HXL.out HXP.out).mono ?_; rintro e w4 ⟨rfl, hd4⟩; have D4 := Aside0.mk hd4; clear hd4)))
          go_end0
          refine ⟨rfl, ?_⟩
          have h9 := HBB.out
          rw [if_neg HM0.out] at h9
          rw [h9]
          exact D4.out

set_option maxHeartbeats 4000000 in
set_option maxRecDepth 100000 in
theorem shiftDn_ (w0 w : World) (B D : Nat) (a b : Dc) (k F G : Nat) (z : Int) (hzk : z = -(k : Int)) (H : DecN w0 B w D a) (hN : Norm a) (hk0 : 1 ≤ k) (hs : shiftF F G a (-(k : Int)) = some b) (hk : k ≤ 1000000000) (hl : a.d.length ≤ 100000000) (hp : -100000000000 ≤ a.dp ∧ a.dp ≤ 100000000000) (hG : G ≤ 1000000) (hF : a.d.length + 70 * (G + 2) ≤ F) (hF2 : F ≤ 1000000000) :
    Calls Tryd.prog 40 #[.pointer (some ⟨D, 0, none⟩), .int .i64 z] w fun r w' => r = .returned (.tuple #[]) ∧ DecN w0 B w' D b := by
  have HH := Aside0.mk H
  have HNN := Aside0.mk hN
  obtain ⟨c, j, hu, hb⟩ : ∃ c j, downF F (G + 1) a k = some (c, j) ∧ (if j = 0 then some c else halfF F c j) = some b := by
    rw [shiftF, if_neg (by omega), show (-(-(k : Int))).toNat = k by omega] at hs
    rcases hQ : downF F (G + 1) a k with _ | ⟨c, j⟩
    · rw [hQ] at hs; cases hs
    · rw [hQ] at hs
      exact ⟨c, j, rfl, by simpa using hs⟩
  have HU := Aside0.mk hu
  have HBB := Aside0.mk hb
  have HFF := Aside0.mk hF
  have HF2 := Aside0.mk hF2
  have hzn : z < 0 := by omega
  have g3 : decide ((59 : Int) < z) = false := decide_eq_false (by omega)
  have HZK := Aside0.mk hzk
  clear H hN hs hu hb hF hF2 hzk
  go_enter Tryd.func40, Tryd.ntmps40
  go_wp2
  go_loopg [1] 0 (fun kq v1 w' => v1 = .int .i64 z ∧ Aside0 (w' = w))
  case atStart => exact ⟨rfl, ⟨rfl⟩⟩
  case round =>
   obtain ⟨rfl, HW⟩ := hrel
   obtain rfl := HW.out
   go_wp2
   go_loopg [1] (G + 1) (fun kq v1 w' => ∃ (m : Nat) (x : Dc) (y : Int), v1 = .int .i64 y ∧ Aside0 (y = -(m : Int)) ∧ Aside0 (m ≤ k) ∧ Aside0 (downF F kq x m = some (c, j)) ∧ Aside0 (Norm x) ∧ Aside0 (x.d.length + 60 * kq ≤ a.d.length + 60 * (G + 1)) ∧ Aside0 (x.dp ≤ a.dp ∧ a.dp - 70 * (G + 1) ≤ x.dp - 70 * kq) ∧ Aside0 (DecN w0 B w' D x))
   case atStart => exact ⟨k, a, _, rfl, HZK, ⟨Nat.le_refl _⟩, HU, HNN, ⟨Nat.le_refl _⟩, ⟨Int.le_refl _, by simp⟩, HH⟩
   case round =>
    obtain ⟨m, x, zz, rfl, HZ, HM, HT, HX, HL, HP, HD⟩ := hrel
    obtain ⟨kq, hkq⟩ : ∃ kq, gk = kq + 1 := by
      rcases gk with _ | kq
      · have := HT.out; rw [downF] at this; cases this
      · exact ⟨kq, rfl⟩
    have HKQ := Aside0.mk hkq
    have hT := HT.out
    rw [hkq, downF] at hT
    have hmk := HM.out
    have hz := HZ.out
    have hL := HL.out
    have hP := HP.out
    have hff := HFF.out
    have hxl : x.d.length ≤ 1000000000 := by omega
    have hxp : -1000000000000 ≤ x.dp ∧ x.dp ≤ 1000000000000 := by omega
    have hxf : x.d.length + 70 ≤ F := by omega
    by_cases h59 : 59 < m
    · rw [if_pos h59] at hT
      obtain ⟨y, hy, n1, n2, n3, n4, _⟩ := HX.out.half (k := 59) (f := F) (by decide) (by decide) hxf
      rw [hy] at hT
      simp only [Option.bind_some] at hT
      have HT2 := Aside0.mk hT
      have HY := Aside0.mk hy
      have HN1 := Aside0.mk n1
      have HN2 := Aside0.mk (And.intro n2 (And.intro n3 n4))
      have g1 : decide (zz < -59) = true := decide_eq_true (by omega)
      have e1 : IntKind.i64.wrap (zz + 59) = zz + 59 := Go.IntWalk.i64_in _ (by omega)
      have HXL := Aside0.mk hxl
      have HXP := Aside0.mk hxp
      have H59 := Aside0.mk h59
      clear hz hT hkq hL hP hxl hxp h59 hy n1 n2 n3 n4 hff hxf
      go_wp2_with ((go_at_call 42; go_loud (refine (half_ w0 _ B D x y 59 F HD.out (by decide) (by decide) HX.out.1 HXL.out HF2.out HXP.out HY.out).mono ?_; rintro e w4 ⟨rfl, hd4⟩; have D4 := Aside0.mk hd4; clear hd4)))
      go_roundg kq
      case measure => have := HKQ.out; omega
      case rel =>
        have := HKQ.out; have := HL.out; have := HP.out; have := H59.out; have := HM.out; have := HN2.out
        have := HZ.out
        exact ⟨m - 59, y, zz + 59, by go_num, ⟨by omega⟩, ⟨by omega⟩, HT2, HN1, ⟨by omega⟩, ⟨by omega, by omega⟩, D4⟩
    · rw [if_neg h59] at hT
      have g1 : decide (zz < -59) = false := decide_eq_false (by omega)
      have hT2 : x = c ∧ m = j := by simpa using hT
      obtain ⟨rfl, rfl⟩ := hT2
      have HXL := Aside0.mk hxl
      have HXP := Aside0.mk hxp
      have HXF := Aside0.mk hxf
      have H59 := Aside0.mk h59
      have g4 : decide ((0 : Int) < zz) = false := decide_eq_false (by omega)
      have e2 : IntKind.i64.wrap (-zz) = (m : Int) := by rw [Go.IntWalk.i64_in _ (by omega)]; omega
      by_cases hm0 : m = 0
      · have g5 : decide (zz < 0) = false := decide_eq_false (by omega)
        subst hm0
        clear hT hkq hL hP hxl hxp h59 hff hxf hz
        go_wp2
        go_end0
        refine ⟨rfl, ?_⟩
        have h9 := HBB.out
        rw [if_pos trivial] at h9
        simp only [Option.some.injEq] at h9
        rw [← h9]
        exact HD.out
      · have g5 : decide (zz < 0) = true := decide_eq_true (by omega)
        have HM0 := Aside0.mk hm0
        have HBH : Aside0 (halfF F x m = some b) := ⟨by have h9 := HBB.out; rw [if_neg hm0] at h9; exact h9⟩
        clear hT hkq hL hP hxl hxp h59 hff hxf hm0 hz
        go_wp2_with ((go_at_call 42; go_loud (refine (half_ w0 _ B D x b m F HD.out (by have := HM0.out; omega) (by have := H59.out; omega) HX.out.1 HXL.out HF2.out HXP.out HBH.out).mono ?_; rintro e w4 ⟨rfl, hd4⟩; have D4 := Aside0.mk hd4; clear hd4)))
        go_end0
        exact ⟨rfl, D4.out⟩

theorem shift_ (w0 w : World) (B D : Nat) (a b : Dc) (k : Int) (F G : Nat) (H : DecN w0 B w D a) (hN : Norm a) (hs : shiftF F G a k = some b) (hk : -1000000000 ≤ k ∧ k ≤ 1000000000) (hl : a.d.length ≤ 100000000) (hp : -100000000000 ≤ a.dp ∧ a.dp ≤ 100000000000) (hG : G ≤ 1000000) (hF : a.d.length + 70 * (G + 2) ≤ F) (hF2 : F ≤ 1000000000) :
    Calls Tryd.prog 40 #[.pointer (some ⟨D, 0, none⟩), .int .i64 k] w fun r w' => r = .returned (.tuple #[]) ∧ DecN w0 B w' D b := by
  by_cases h : 0 ≤ k
  · obtain ⟨m, rfl⟩ : ∃ m : Nat, k = (m : Int) := ⟨k.toNat, by omega⟩
    exact shiftUp_ w0 w B D a b m F G H hN hs (by omega) hl hp hG
  · obtain ⟨m, rfl⟩ : ∃ m : Nat, k = -(m : Int) := ⟨(-k).toNat, by omega⟩
    exact shiftDn_ w0 w B D a b m F G _ rfl H hN (by omega) hs (by omega) hl hp hG hF hF2
end Go.Proofs.YtnmochachiieaaaDoor.Hand
