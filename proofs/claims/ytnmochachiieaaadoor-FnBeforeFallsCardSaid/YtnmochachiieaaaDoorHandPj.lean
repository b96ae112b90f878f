/- The bits of the float nearest to a decimal. -/
import Derived.Test.YtnmochachiieaaaDoorHandPi
namespace Go.Proofs.YtnmochachiieaaaDoor.Hand
open Go.RowKit Go.Proofs.YtnmochachiieaaaDoorW.PrintWords Go.Proofs.YtnmochachiieaaaDoorW.PrintLast Go.Proofs.YtnmochachiieaaaDoorW.PrintMore Go.Proofs.YtnmochachiieaaaDoor.Base
open Go.Proofs.YtnmochachiieaaaDoor.Pf
set_option linter.unusedVariables false
set_option linter.unusedSimpArgs false

theorem mn_ev (x : Int) : (if (59 : Int) < x then (59 : Int) else x) = min x 59 := by
  by_cases h : (59 : Int) < x
  · rw [if_pos h]; omega
  · rw [if_neg h]; omega
def formV : Value := .agg #[.int .i64 52, .int .i64 11, .int .i64 (-1023)]
/-- The bits of 53 digits (in 2) and an exponent. -/
def finV (m : Nat) (e : Int) : Int := bits .or .u64 (bits .and .u64 (m : Int) 4503599627370495) (IntKind.u64.wrap (IntKind.u64.wrap (e + 1023) * 4503599627370496))
def finE (m : Nat) (e : Int) : Int := if bits .and .u64 (m : Int) 4503599627370496 = 0 then -1023 else e
def finC (m : Nat) (e : Int) : Int × Bool :=
  if m = 9007199254740992 then (if 2047 ≤ e + 1 + 1023 then (9218868437227405312, true) else (finV 4503599627370496 (e + 1), false))
  else (finV m (finE m e), false)
def resC : Option (Dc × Int) → Int × Bool
  | none => (9218868437227405312, true)
  | some (c, e) => finC (wholeC c) e
set_option maxHeartbeats 4000000 in
set_option maxRecDepth 100000 in
theorem bitsMain (w0 w : World) (B D : Nat) (a b c : Dc) (e1 e2 : Int) (r : Option (Dc × Int)) (H : DecN w0 B w D a) (hN : Norm a) (hl : a.d.length ≤ 1000000) (hp1 : -330 ≤ a.dp) (hp2 : a.dp ≤ 310)
    (hlow : lowF 100000000 700 a 0 = some (b, e1)) (hhigh : highF 300001 b e1 = some (c, e2))
    (htail : ((if 0 < -1022 - (e2 - 1) then (shiftF 100000000 301000 c (-(-1022 - (e2 - 1)))).map fun c => (c, e2 - 1 + (-1022 - (e2 - 1))) else some (c, e2 - 1)).bind fun r =>
      if 2047 ≤ r.2 + 1023 then some none else (shiftF 100000000 301000 r.1 53).map fun c => some (c, r.2)) = some r) :
    Calls Tryd.prog 28 #[.pointer (some ⟨D, 0, none⟩), .agg #[.int .i64 52, .int .i64 11, .int .i64 (-1023)]] w fun e w' => e = .returned (.tuple #[.int .u64 (resC r).1, .bool (resC r).2]) ∧ Kp w0 B D w' := by
  obtain ⟨v, H⟩ := H
  have HBD := Aside0.mk (show B ≤ D from H.2.2.2.1)
  have HDL := Aside0.mk (blk_lt H.1)
  have HBX := Aside0.mk (blk_new w (.cells #[.int .i64 52, .int .i64 11, .int .i64 (-1023)] 55 (0, 0)))
  have HD1 := Aside0.mk (H.below (below_alloc (Below.refl _ _) (.cells #[.int .i64 52, .int .i64 11, .int .i64 (-1023)] 55 (0, 0))))
  have HNN := Aside0.mk hN
  have HTAIL := Aside0.mk htail
  have HLOW := Aside0.mk hlow
  have HHIGH := Aside0.mk hhigh
  obtain ⟨A, cc, rfl, hc⟩ := H.form
  obtain ⟨hd, d1, r1, hd1, hpos⟩ := hN
  have HNE := Aside0.mk (show a.d.length ≠ 0 by rw [hd1]; simp)
  have c0 : (w.alloc (.cells #[.int .i64 52, .int .i64 11, .int .i64 (-1023)] 55 (0, 0))).cell? ⟨D, 0, none⟩ = _ := HD1.out.c0
  have c1 := HD1.out.c1
  clear H hlow hhigh htail hd hd1 hpos
  go_enter Tryd.func28, Tryd.ntmps28
  go_upto_region 1 with (fail)
  have HXD := Aside0.mk (show w.heap.size ≠ D by have := HDL.out; omega)
  obtain ⟨X, hX⟩ : ∃ X, X = w.heap.size := ⟨_, rfl⟩
  rw [← hX] at HBX HXD ⊢
  have HXB := Aside0.mk (blk_lt HBX.out)
  clear hX HDL
  generalize w.alloc _ = w1 at HBX HD1 c0 c1 HXB ⊢
  have f52 : w1.cell? ⟨X, 0, none⟩ = some (.int .i64 52) := by rw [blk_cell HBX.out]; rfl
  have f11 : w1.cell? ⟨X, 1, none⟩ = some (.int .i64 11) := by rw [blk_cell HBX.out]; rfl
  have n1 : ((a.d.length : Int) == 0) = false := beq_eq_false_iff_ne.mpr (by have := HNE.out; omega)
  have n2 : decide (a.dp < -330) = false := decide_eq_false (by omega)
  have n3 : decide (310 < a.dp) = false := decide_eq_false (by omega)
  go_quiet (fail)
  go_wp2
  have HE1 := Aside0.mk ((HD1.out.base).drewN nq)
  have HK0 := Aside0.mk (HD1.out.2.2.1)
  clear c0 c1 f52 f11 n1 n2 n3
  have HP12 := Aside0.mk (And.intro hp1 hp2)
  clear hp1 hp2
  go_loopg [7] 700 (fun kq v7 w' => ∃ (x : Dc) (e : Int), v7 = .int .i64 e ∧ Aside0 (lowF 100000000 kq x e = some (b, e1)) ∧ Aside0 (Norm x) ∧ Aside0 (x.d.length + 60 * kq ≤ a.d.length + 60 * 700) ∧ Aside0 (x.dp ≤ a.dp ∧ a.dp - 70 * 700 ≤ x.dp - 70 * kq) ∧ Aside0 (0 ≤ e ∧ e + 59 * kq ≤ 59 * 700) ∧ Aside0 (DecN w1 B w' D x))
  case atStart => exact ⟨a, 0, rfl, HLOW, HNN, ⟨Nat.le_refl _⟩, ⟨Int.le_refl _, by omega⟩, ⟨Int.le_refl _, by omega⟩, ⟨_, HE1.out⟩⟩
  case round =>
    obtain ⟨x, e, rfl, HT, HX, HL, HP, HE, HD⟩ := hrel
    obtain ⟨kq, hkq⟩ : ∃ kq, gk = kq + 1 := by
      rcases gk with _ | kq
      · have := HT.out; rw [lowF] at this; cases this
      · exact ⟨kq, rfl⟩
    have HKQ := Aside0.mk hkq
    have hT := HT.out
    rw [hkq, lowF] at hT
    obtain ⟨vx, hx⟩ := HD.out
    have c1 := hx.c1
    have hL := HL.out
    have hP := HP.out
    have hE := HE.out
    have hP2 := HP12.out
    have hxl : x.d.length ≤ 1000000000 := by omega
    have hxp : -1000000000000 ≤ x.dp ∧ x.dp ≤ 1000000000000 := by omega
    by_cases hz : 0 < x.dp
    · have g1 : decide ((0 : Int) < x.dp) = true := decide_eq_true hz
      rw [if_pos hz] at hT
      obtain ⟨q, hq⟩ : ∃ q, q = (min (3 * x.dp) 59).toNat := ⟨_, rfl⟩
      have hq1 : 1 ≤ q := by omega
      have hq2 : q ≤ 59 := by omega
      have hqi : min (3 * x.dp) 59 = (q : Int) := by omega
      obtain ⟨y, hy, m1, m2, m3, m4, _⟩ := HX.out.half (k := q) (f := 100000000) hq1 hq2 (by omega)
      rw [← hq, hqi, hy] at hT
      simp only [Option.bind_some] at hT
      have k1 : IntKind.i64.wrap (3 * x.dp) = 3 * x.dp := Go.IntWalk.i64_in _ (by omega)
      have k2 : (if (59 : Int) < 3 * x.dp then (59 : Int) else 3 * x.dp) = (q : Int) := by rw [mn_ev]; exact hqi
      have k3 : IntKind.i64.wrap (e + (q : Int)) = e + (q : Int) := Go.IntWalk.i64_in _ (by omega)
      have HT2 := Aside0.mk hT
      have HY := Aside0.mk hy
      have HM := Aside0.mk (And.intro m1 (And.intro m2 (And.intro m3 m4)))
      have HQ := Aside0.mk (And.intro hq1 hq2)
      have HXL := Aside0.mk hxl
      have HXP := Aside0.mk hxp
      clear hT hy m1 m2 m3 m4 hq hqi hkq hL hP hE hP2 hxl hxp hz hx hq1 hq2
      go_wp2_with ((go_at_call 42; go_loud (refine (half_ w1 _ B D x y q 100000000 HD.out HQ.out.1 HQ.out.2 HX.out.1 HXL.out (by omega) HXP.out HY.out).mono ?_; rintro e w4 ⟨rfl, hd4⟩; have D4 := Aside0.mk hd4; clear hd4)))
      go_roundg kq
      case measure => have := HKQ.out; omega
      case rel =>
        have := HKQ.out; have := HL.out; have := HP.out; have := HE.out; have := HM.out.2; have := HQ.out
        exact ⟨y, e + (q : Int), by go_num, HT2, ⟨HM.out.1⟩, ⟨by omega⟩, ⟨by omega, by omega⟩, ⟨by omega, by omega⟩, D4⟩
    · have g1 : decide ((0 : Int) < x.dp) = false := decide_eq_false hz
      rw [if_neg hz] at hT
      have hT2 : x = b ∧ e = e1 := by simpa using hT
      obtain ⟨rfl, rfl⟩ := hT2
      have HB1 := Aside0.mk (show x.d.length ≤ 2000000 by omega)
      have HB2 := Aside0.mk (show -60000 ≤ x.dp ∧ x.dp ≤ 0 by omega)
      have HB3 := Aside0.mk (show 0 ≤ e ∧ e ≤ 50000 by omega)
      clear hT hkq hL hP hE hP2 hxl hxp hz hx
      go_wp2
      go_loopg [7] 300001 (fun kq v7 w' => ∃ (y : Dc) (z : Int), v7 = .int .i64 z ∧ Aside0 (highF kq y z = some (c, e2)) ∧ Aside0 (Norm y) ∧ Aside0 (y.d.length + 20 * kq ≤ x.d.length + 20 * 300001) ∧ Aside0 (x.dp ≤ y.dp ∧ y.dp + 20 * kq ≤ x.dp + 20 * 300001) ∧ Aside0 (z ≤ e ∧ e - 59 * 300001 ≤ z - 59 * kq) ∧ Aside0 (DecN w1 B w' D y))
      case atStart => exact ⟨x, e, rfl, HHIGH, HX, ⟨Nat.le_refl _⟩, ⟨Int.le_refl _, by omega⟩, ⟨Int.le_refl _, by omega⟩, HD⟩
      case round =>
        clear c1
        obtain ⟨y, z, rfl, HT3, HY, HL3, HP3, HE3, HD3⟩ := hrel
        obtain ⟨kr, hkr⟩ : ∃ kr, gk = kr + 1 := by
          rcases gk with _ | kr
          · have := HT3.out; rw [highF] at this; cases this
          · exact ⟨kr, rfl⟩
        have HKR := Aside0.mk hkr
        have hT := HT3.out
        rw [hkr, highF] at hT
        obtain ⟨vy, hy⟩ := HD3.out
        obtain ⟨Ay, cy, rfl, hcy⟩ := hy.form
        have c0 := hy.c0
        have c1 := hy.c1
        obtain ⟨hd9, d, rr, hdr, hdp⟩ := HY.out
        have hget : y.d[0]? = some d := by rw [hdr]; rfl
        have hh : hd1 y = d := by unfold hd1; rw [hdr]; rfl
        obtain ⟨ad, rfl, hcell⟩ := hy.digit hget
        rw [hh] at hT
        have hcell0 : wr.cell? ad = some (.int .u8 (d : Int)) := by
          have : ad.add 0 = ad := by cases ad; simp [Addr.add]
          rw [this] at hcell
          exact hcell
        have hlen0 : (0 : Int) < (y.d.length : Int) := by rw [hdr]; simp
        have hd10 : d < 10 := hd9 d (by rw [hdr]; simp)
        have hL := HL3.out
        have hP := HP3.out
        have hE := HE3.out
        have hB1 := HB1.out
        have hB2 := HB2.out
        have hB3 := HB3.out
        have hxl : y.d.length ≤ 1000000000 := by omega
        have hxp : -1000000000000 ≤ y.dp ∧ y.dp ≤ 1000000000000 := by omega
        have HXL := Aside0.mk hxl
        have HXP := Aside0.mk hxp
        by_cases hz : y.dp < 0
        · have g1 : decide (y.dp < 0) = true := decide_eq_true hz
          rw [if_pos (.inl hz), if_pos hz, if_pos hz] at hT
          obtain ⟨q, hq⟩ : ∃ q, q = (min (-3 * y.dp) 59).toNat := ⟨_, rfl⟩
          have hq1 : 1 ≤ q := by omega
          have hq2 : q ≤ 59 := by omega
          have hqi : min (-3 * y.dp) 59 = (q : Int) := by omega
          rw [← hq, hqi] at hT
          have k1 : IntKind.i64.wrap (-3 * y.dp) = -3 * y.dp := Go.IntWalk.i64_in _ (by omega)
          have k2 : (if (59 : Int) < -3 * y.dp then (59 : Int) else -3 * y.dp) = (q : Int) := by rw [mn_ev]; exact hqi
          have k3 : IntKind.i64.wrap (z - (q : Int)) = z - (q : Int) := Go.IntWalk.i64_in _ (by omega)
          have HT4 := Aside0.mk hT
          have HQ := Aside0.mk (And.intro hq1 hq2)
          have HDB := Aside0.mk (HY.out.dbl q (by omega))
          clear hT hq hqi hkr hL hP hE hB1 hB2 hB3 hxl hxp hz hy hq1 hq2 hdr hget hh hd9 hdp
          go_wp2_with ((go_at_call 43; go_loud (refine (double_ w1 _ B D y q HD3.out HQ.out.2 HY.out.1 HXL.out HXP.out).mono ?_; rintro e w4 ⟨rfl, hd4⟩; have D4 := Aside0.mk hd4; clear hd4)))
          go_roundg kr
          case measure => have := HKR.out; omega
          case rel =>
            have := HKR.out; have := HL3.out; have := HP3.out; have := HE3.out; have := HDB.out.2.1; have := HDB.out.2.2.1; have := HQ.out
            exact ⟨dblC y q, z - (q : Int), by go_num, HT4, ⟨HDB.out.1⟩, ⟨by omega⟩, ⟨by omega, by omega⟩, ⟨by omega, by omega⟩, D4⟩
        · have g1 : decide (y.dp < 0) = false := decide_eq_false hz
          by_cases hd5 : d < 5
          · have g2 : decide ((d : Int) < 5) = true := decide_eq_true (by omega)
            have g3 : decide (d < 5) = true := decide_eq_true hd5
            rw [if_pos (.inr hd5), if_neg hz, if_neg hz] at hT
            have k3 : IntKind.i64.wrap (z - 1) = z - 1 := Go.IntWalk.i64_in _ (by omega)
            have HT4 := Aside0.mk hT
            have HDB := Aside0.mk (HY.out.dbl 1 (by omega))
            clear hT hkr hL hP hE hB1 hB2 hB3 hxl hxp hz hy hdr hget hh hd9 hdp hd5
            go_wp2_with ((go_at_call 43; go_loud (refine (double_ w1 _ B D y 1 HD3.out (by decide) HY.out.1 HXL.out HXP.out).mono ?_; rintro e w4 ⟨rfl, hd4⟩; have D4 := Aside0.mk hd4; clear hd4)))
            go_roundg kr
            case measure => have := HKR.out; omega
            case rel =>
              have := HKR.out; have := HL3.out; have := HP3.out; have := HE3.out; have := HDB.out.2.1; have := HDB.out.2.2.1
              exact ⟨dblC y 1, z - 1, by go_num, HT4, ⟨HDB.out.1⟩, ⟨by omega⟩, ⟨by omega, by omega⟩, ⟨by omega, by omega⟩, D4⟩
          · have g2 : decide ((d : Int) < 5) = false := decide_eq_false (by omega)
            have g3 : decide (d < 5) = false := decide_eq_false hd5
            rw [if_neg (fun h => h.elim hz hd5)] at hT
            have hT2 : y = c ∧ z = e2 := by simpa using hT
            obtain ⟨rfl, rfl⟩ := hT2
            clear hT hkr hL hP hE hB1 hB2 hB3 hxl hxp hz hy hdr hget hh hd9 hdp hd5
            go_upto_region 17 with (fail)
            have hb1 := HB1.out
            have hb2 := HB2.out
            have hb3 := HB3.out
            have hl3 := HL3.out
            have hp3 := HP3.out
            have he3 := HE3.out
            obtain ⟨E0, hE0⟩ : ∃ E0, E0 = z - 1 := ⟨_, rfl⟩
            obtain ⟨K0, hK0⟩ : ∃ K0, K0 = -1022 - E0 := ⟨_, rfl⟩
            have k4 : IntKind.i64.wrap (z - 1) = E0 := by rw [hE0]; exact Go.IntWalk.i64_in _ (by omega)
            have k5 : IntKind.i64.wrap (-1022 - E0) = K0 := by rw [hK0]; exact Go.IntWalk.i64_in _ (by omega)
            have hTL := HTAIL.out
            rw [← hE0, ← hK0] at hTL
            have hX0 : wr.heap[X]? = some (.cells #[.int .i64 52, .int .i64 11, .int .i64 (-1023)] 55 (0, 0)) := by
              obtain ⟨_, h⟩ := HD3.out
              rw [h.2.2.1.2 X HXB.out HXD.out]
              exact HBX.out
            have f2 : wr.cell? ⟨X, 2, none⟩ = some (.int .i64 (-1023)) := by rw [blk_cell hX0]; rfl
            clear hX0 c0 c1 hcell hcell0 hlen0 hd10
            have HY2 := Aside0.mk (show y.d.length ≤ 9000000 by omega)
            have HY3 := Aside0.mk (show -100000 ≤ y.dp ∧ y.dp ≤ 7000000 by omega)
            have HE0 := Aside0.mk hE0
            have HK1 := Aside0.mk hK0
            have HZB := Aside0.mk (show -17800000 ≤ z ∧ z ≤ 50000 by omega)
            by_cases hk : 0 < K0
            · have k6 : decide (0 < K0) = true := decide_eq_true hk
              rw [if_pos hk] at hTL
              obtain ⟨y2, hy2, m1, m2, m3, m4⟩ := HY.out.shift (F := 100000000) (G := 301000) (k := -K0) (by omega) (by omega) (by omega)
              rw [hy2] at hTL
              obtain ⟨E1, hE1⟩ : ∃ E1, E1 = E0 + K0 := ⟨_, rfl⟩
              have hEv : E1 = -1022 := by omega
              have k7 : IntKind.i64.wrap (E0 + K0) = E1 := by rw [hE1]; exact Go.IntWalk.i64_in _ (by omega)
              have k8 : IntKind.i64.wrap (-K0) = -K0 := Go.IntWalk.i64_in _ (by omega)
              rw [← hE1] at hTL
              have HR : Aside0 ((if 2047 ≤ E1 + 1023 then some none else (shiftF 100000000 301000 y2 53).map fun c => some (c, E1)) = some r) := ⟨hTL⟩
              have HY2' := Aside0.mk hy2
              have HM := Aside0.mk (And.intro m1 (And.intro m2 (And.intro m3 m4)))
              have HKB := Aside0.mk (show -1000000000 ≤ -K0 ∧ -K0 ≤ 1000000000 by omega)
              have hEb : -20000000 ≤ E1 ∧ E1 ≤ 50000 := by omega
              have HEE := Aside0.mk (And.intro hE1 hEv)
              have HKK := Aside0.mk hk
              clear hTL hE0 hK0 hk hy2 m1 m2 m3 m4 hE1 hEv hb1 hb2 hb3 hl3 hp3 he3
              go_upto_region 22 with ((go_at_call 40; go_loud (refine (shift_ w1 _ B D y y2 (-K0) 100000000 301000 HD3.out HY.out HY2'.out HKB.out (by have := HY2.out; omega) (by have := HY3.out; omega) (by omega) (by have := HY2.out; omega) (by omega)).mono ?_; rintro e w4 ⟨rfl, hd4⟩; have D4 := Aside0.mk hd4; clear hd4)))
              have HLB := Aside0.mk (show y2.d.length ≤ 28000000 by have := HY2.out; have := HM.out.2.1; omega)
              have HPB := Aside0.mk (show -30000000 ≤ y2.dp ∧ y2.dp ≤ 14000000 by have := HY3.out; have := HM.out.2.2; omega)
              have HNY := Aside0.mk HM.out.1
              have hX : w4.heap[X]? = some (.cells #[.int .i64 52, .int .i64 11, .int .i64 (-1023)] 55 (0, 0)) := by
                obtain ⟨_, h⟩ := D4.out
                rw [h.2.2.1.2 X HXB.out HXD.out]
                exact HBX.out
              have f52 : w4.cell? ⟨X, 0, none⟩ = some (.int .i64 52) := by rw [blk_cell hX]; rfl
              have f11 : w4.cell? ⟨X, 1, none⟩ = some (.int .i64 11) := by rw [blk_cell hX]; rfl
              have fbb : w4.cell? ⟨X, 2, none⟩ = some (.int .i64 (-1023)) := by rw [blk_cell hX]; rfl
              have q1 : IntKind.i64.wrap (E1 - -1023) = E1 + 1023 := by rw [Go.IntWalk.i64_in _ (by omega)]; omega
              by_cases hov : 2047 ≤ E1 + 1023
              · have q2 : decide (2047 ≤ E1 + 1023) = true := decide_eq_true hov
                have hR := HR.out
                rw [if_pos hov] at hR
                simp only [Option.some.injEq] at hR
                subst hR
                clear hX hov
                go_quiet (fail)
                go_wp2
                go_ret2
                refine ⟨rfl, HK0.out.trans ?_⟩
                obtain ⟨_, h⟩ := D4.out
                exact (h.drewN _).2.2.1
              · have q2 : decide (2047 ≤ E1 + 1023) = false := decide_eq_false hov
                have hR := HR.out
                rw [if_neg hov] at hR
                obtain ⟨c3, hc3, l1, l2, l3, l4⟩ := HNY.out.shift (F := 100000000) (G := 301000) (k := 53) (by omega) (by omega) (by have := HLB.out; omega)
                rw [hc3] at hR
                simp only [Option.map_some, Option.some.injEq] at hR
                subst hR
                have HC3 := Aside0.mk hc3
                have HCB := Aside0.mk (And.intro l1 (And.intro l2 (And.intro l3 l4)))
                have HEB := Aside0.mk hEb
                have HOV := Aside0.mk hov
                clear hX hov hc3 l1 l2 l3 l4
                go_quiet (fail)
                obtain ⟨m, hm⟩ : ∃ m, m = wholeC c3 := ⟨_, rfl⟩
                have HMM := Aside0.mk hm
                clear hm
                by_cases hm53 : m = 9007199254740992
                · subst hm53
                  have t1 : bits .and .u64 4503599627370496 4503599627370496 = 4503599627370496 := u64_and_nat 4503599627370496 4503599627370496 (by omega) (by omega)
                  obtain ⟨E2, hE2⟩ : ∃ E2, E2 = E1 + 1 := ⟨_, rfl⟩
                  have q3 : IntKind.i64.wrap (E1 + 1) = E2 := by rw [hE2]; exact Go.IntWalk.i64_in _ (by have := HEB.out; omega)
                  have q4 : IntKind.i64.wrap (E2 - -1023) = E2 + 1023 := by rw [Go.IntWalk.i64_in _ (by have := HEB.out; omega)]; omega
                  have HE2 := Aside0.mk hE2
                  have e2a : -30000000 ≤ E2 := by have := HEB.out; omega
                  have e2b : E2 ≤ 60000 := by have := HEB.out; omega
                  by_cases ho2 : 2047 ≤ E2 + 1023
                  · have q5 : decide (2047 ≤ E2 + 1023) = true := decide_eq_true ho2
                    have HO2 := Aside0.mk ho2
                    clear ho2 hE2
                    go_upto_region 29 with (first | (go_at_call 40; go_loud (refine (shift_ w1 _ B D y2 c3 53 100000000 301000 (by obtain ⟨v, h⟩ := D4.out; exact ⟨v, h.drewN _⟩) HNY.out HC3.out (by omega) (by have := HLB.out; omega) (by have := HPB.out; omega) (by omega) (by have := HLB.out; omega) (by omega)).mono ?_; rintro e w5 ⟨rfl, hd5⟩; have D5 := Aside0.mk hd5; clear hd5; have hX : w5.heap[X]? = some (.cells #[.int .i64 52, .int .i64 11, .int .i64 (-1023)] 55 (0, 0)) := (by obtain ⟨_, h⟩ := D5.out; rw [h.2.2.1.2 X HXB.out HXD.out]; exact HBX.out); have g52 : w5.cell? ⟨X, 0, none⟩ = some (.int .i64 52) := (by rw [blk_cell hX]; rfl); have g11 : w5.cell? ⟨X, 1, none⟩ = some (.int .i64 11) := (by rw [blk_cell hX]; rfl); have gbb : w5.cell? ⟨X, 2, none⟩ = some (.int .i64 (-1023)) := (by rw [blk_cell hX]; rfl); clear hX)) | (go_at_call 44; go_loud (refine (whole_ w1 _ B D c3 D5.out HCB.out.1.1 (by have := HCB.out.2.1; have := HLB.out; omega) (by have := HCB.out.2.2.2; have := HPB.out; omega)).mono ?_; rintro e w6 ⟨rfl, rfl⟩; rw [← HMM.out])))
                    go_quiet (fail)
                    go_wp2
                    go_ret2
                    refine ⟨?_, HK0.out.trans ?_⟩
                    · rw [resC, ← HMM.out, finC, if_pos rfl, if_pos (by have := HO2.out; have := HE2.out; omega)]; rfl
                    · obtain ⟨_, h⟩ := D5.out
                      exact (h.drewN _).2.2.1
                  · have q5 : decide (2047 ≤ E2 + 1023) = false := decide_eq_false ho2
                    have HO2 := Aside0.mk ho2
                    clear ho2 hE2
                    go_upto_region 29 with (first | (go_at_call 40; go_loud (refine (shift_ w1 _ B D y2 c3 53 100000000 301000 (by obtain ⟨v, h⟩ := D4.out; exact ⟨v, h.drewN _⟩) HNY.out HC3.out (by omega) (by have := HLB.out; omega) (by have := HPB.out; omega) (by omega) (by have := HLB.out; omega) (by omega)).mono ?_; rintro e w5 ⟨rfl, hd5⟩; have D5 := Aside0.mk hd5; clear hd5; have hX : w5.heap[X]? = some (.cells #[.int .i64 52, .int .i64 11, .int .i64 (-1023)] 55 (0, 0)) := (by obtain ⟨_, h⟩ := D5.out; rw [h.2.2.1.2 X HXB.out HXD.out]; exact HBX.out); have g52 : w5.cell? ⟨X, 0, none⟩ = some (.int .i64 52) := (by rw [blk_cell hX]; rfl); have g11 : w5.cell? ⟨X, 1, none⟩ = some (.int .i64 11) := (by rw [blk_cell hX]; rfl); have gbb : w5.cell? ⟨X, 2, none⟩ = some (.int .i64 (-1023)) := (by rw [blk_cell hX]; rfl); clear hX)) | (go_at_call 44; go_loud (refine (whole_ w1 _ B D c3 D5.out HCB.out.1.1 (by have := HCB.out.2.1; have := HLB.out; omega) (by have := HCB.out.2.2.2; have := HPB.out; omega)).mono ?_; rintro e w6 ⟨rfl, rfl⟩; rw [← HMM.out])))
                    go_quiet (fail)
                    go_upto_region 33 with (fail)
                    go_quiet (fail)
                    go_wp2
                    go_ret2
                    refine ⟨?_, HK0.out.trans ?_⟩
                    · rw [resC, ← HMM.out, finC, if_pos rfl, if_neg (by have := HO2.out; have := HE2.out; omega), ← HE2.out]; rfl
                    · obtain ⟨_, h⟩ := D5.out
                      exact ((h.drewN _).drewN _).2.2.1
                · have q3 : ((m : Int) == 9007199254740992) = false := beq_eq_false_iff_ne.mpr (by omega)
                  have HM53 := Aside0.mk hm53
                  clear hm53
                  by_cases hb0 : bits .and .u64 (m : Int) 4503599627370496 = 0
                  · have HB0 := Aside0.mk hb0
                    go_upto_region 33 with (first | (go_at_call 40; go_loud (refine (shift_ w1 _ B D y2 c3 53 100000000 301000 (by obtain ⟨v, h⟩ := D4.out; exact ⟨v, h.drewN _⟩) HNY.out HC3.out (by omega) (by have := HLB.out; omega) (by have := HPB.out; omega) (by omega) (by have := HLB.out; omega) (by omega)).mono ?_; rintro e w5 ⟨rfl, hd5⟩; have D5 := Aside0.mk hd5; clear hd5; have hX : w5.heap[X]? = some (.cells #[.int .i64 52, .int .i64 11, .int .i64 (-1023)] 55 (0, 0)) := (by obtain ⟨_, h⟩ := D5.out; rw [h.2.2.1.2 X HXB.out HXD.out]; exact HBX.out); have g52 : w5.cell? ⟨X, 0, none⟩ = some (.int .i64 52) := (by rw [blk_cell hX]; rfl); have g11 : w5.cell? ⟨X, 1, none⟩ = some (.int .i64 11) := (by rw [blk_cell hX]; rfl); have gbb : w5.cell? ⟨X, 2, none⟩ = some (.int .i64 (-1023)) := (by rw [blk_cell hX]; rfl); clear hX)) | (go_at_call 44; go_loud (refine (whole_ w1 _ B D c3 D5.out HCB.out.1.1 (by have := HCB.out.2.1; have := HLB.out; omega) (by have := HCB.out.2.2.2; have := HPB.out; omega)).mono ?_; rintro e w6 ⟨rfl, rfl⟩; rw [← HMM.out])))
                    go_quiet (fail)
                    go_wp2
                    go_ret2
                    refine ⟨?_, HK0.out.trans ?_⟩
                    · rw [resC, ← HMM.out, finC, if_neg HM53.out, finE, if_pos HB0.out]; rfl
                    · obtain ⟨_, h⟩ := D5.out
                      exact (h.drewN _).2.2.1
                  · have q6 : (bits .and .u64 (m : Int) 4503599627370496 == 0) = false := beq_eq_false_iff_ne.mpr hb0
                    have HB0 := Aside0.mk hb0
                    clear hb0
                    go_upto_region 33 with (first | (go_at_call 40; go_loud (refine (shift_ w1 _ B D y2 c3 53 100000000 301000 (by obtain ⟨v, h⟩ := D4.out; exact ⟨v, h.drewN _⟩) HNY.out HC3.out (by omega) (by have := HLB.out; omega) (by have := HPB.out; omega) (by omega) (by have := HLB.out; omega) (by omega)).mono ?_; rintro e w5 ⟨rfl, hd5⟩; have D5 := Aside0.mk hd5; clear hd5; have hX : w5.heap[X]? = some (.cells #[.int .i64 52, .int .i64 11, .int .i64 (-1023)] 55 (0, 0)) := (by obtain ⟨_, h⟩ := D5.out; rw [h.2.2.1.2 X HXB.out HXD.out]; exact HBX.out); have g52 : w5.cell? ⟨X, 0, none⟩ = some (.int .i64 52) := (by rw [blk_cell hX]; rfl); have g11 : w5.cell? ⟨X, 1, none⟩ = some (.int .i64 11) := (by rw [blk_cell hX]; rfl); have gbb : w5.cell? ⟨X, 2, none⟩ = some (.int .i64 (-1023)) := (by rw [blk_cell hX]; rfl); clear hX)) | (go_at_call 44; go_loud (refine (whole_ w1 _ B D c3 D5.out HCB.out.1.1 (by have := HCB.out.2.1; have := HLB.out; omega) (by have := HCB.out.2.2.2; have := HPB.out; omega)).mono ?_; rintro e w6 ⟨rfl, rfl⟩; rw [← HMM.out])))
                    go_quiet (fail)
                    go_wp2
                    go_ret2
                    refine ⟨?_, HK0.out.trans ?_⟩
                    · rw [resC, ← HMM.out, finC, if_neg HM53.out, finE, if_neg HB0.out]; rfl
                    · obtain ⟨_, h⟩ := D5.out
                      exact (h.drewN _).2.2.1
            · have k6 : decide (0 < K0) = false := decide_eq_false hk
              rw [if_neg hk] at hTL
              obtain ⟨E1, hE1⟩ : ∃ E1, E1 = E0 := ⟨_, rfl⟩
              subst hE1
              have HR : Aside0 ((if 2047 ≤ E1 + 1023 then some none else (shiftF 100000000 301000 y 53).map fun c => some (c, E1)) = some r) := ⟨hTL⟩
              have hEb : -20000000 ≤ E1 ∧ E1 ≤ 50000 := by omega
              clear hTL hE0 hK0 hk hb1 hb2 hb3 hl3 hp3 he3
              go_upto_region 22 with (fail)
              have HLB := Aside0.mk (show y.d.length ≤ 28000000 by have := HY2.out; omega)
              have HPB := Aside0.mk (show -30000000 ≤ y.dp ∧ y.dp ≤ 14000000 by have := HY3.out; omega)
              have HNY := Aside0.mk HY.out
              have hX : wr.heap[X]? = some (.cells #[.int .i64 52, .int .i64 11, .int .i64 (-1023)] 55 (0, 0)) := by
                obtain ⟨_, h⟩ := HD3.out
                rw [h.2.2.1.2 X HXB.out HXD.out]
                exact HBX.out
              have f52 : wr.cell? ⟨X, 0, none⟩ = some (.int .i64 52) := by rw [blk_cell hX]; rfl
              have f11 : wr.cell? ⟨X, 1, none⟩ = some (.int .i64 11) := by rw [blk_cell hX]; rfl
              have fbb : wr.cell? ⟨X, 2, none⟩ = some (.int .i64 (-1023)) := by rw [blk_cell hX]; rfl
              have q1 : IntKind.i64.wrap (E1 - -1023) = E1 + 1023 := by rw [Go.IntWalk.i64_in _ (by omega)]; omega
              by_cases hov : 2047 ≤ E1 + 1023
              · have q2 : decide (2047 ≤ E1 + 1023) = true := decide_eq_true hov
                have hR := HR.out
                rw [if_pos hov] at hR
                simp only [Option.some.injEq] at hR
                subst hR
                clear hX hov
                go_quiet (fail)
                go_wp2
                go_ret2
                refine ⟨rfl, HK0.out.trans ?_⟩
                obtain ⟨_, h⟩ := HD3.out
                exact (h.drewN _).2.2.1
              · have q2 : decide (2047 ≤ E1 + 1023) = false := decide_eq_false hov
                have hR := HR.out
                rw [if_neg hov] at hR
                obtain ⟨c3, hc3, l1, l2, l3, l4⟩ := HNY.out.shift (F := 100000000) (G := 301000) (k := 53) (by omega) (by omega) (by have := HLB.out; omega)
                rw [hc3] at hR
                simp only [Option.map_some, Option.some.injEq] at hR
                subst hR
                have HC3 := Aside0.mk hc3
                have HCB := Aside0.mk (And.intro l1 (And.intro l2 (And.intro l3 l4)))
                have HEB := Aside0.mk hEb
                have HOV := Aside0.mk hov
                clear hX hov hc3 l1 l2 l3 l4
                go_quiet (fail)
                obtain ⟨m, hm⟩ : ∃ m, m = wholeC c3 := ⟨_, rfl⟩
                have HMM := Aside0.mk hm
                clear hm
                by_cases hm53 : m = 9007199254740992
                · subst hm53
                  have t1 : bits .and .u64 4503599627370496 4503599627370496 = 4503599627370496 := u64_and_nat 4503599627370496 4503599627370496 (by omega) (by omega)
                  obtain ⟨E2, hE2⟩ : ∃ E2, E2 = E1 + 1 := ⟨_, rfl⟩
                  have q3 : IntKind.i64.wrap (E1 + 1) = E2 := by rw [hE2]; exact Go.IntWalk.i64_in _ (by have := HEB.out; omega)
                  have q4 : IntKind.i64.wrap (E2 - -1023) = E2 + 1023 := by rw [Go.IntWalk.i64_in _ (by have := HEB.out; omega)]; omega
                  have HE2 := Aside0.mk hE2
                  have e2a : -30000000 ≤ E2 := by have := HEB.out; omega
                  have e2b : E2 ≤ 60000 := by have := HEB.out; omega
                  by_cases ho2 : 2047 ≤ E2 + 1023
                  · have q5 : decide (2047 ≤ E2 + 1023) = true := decide_eq_true ho2
                    have HO2 := Aside0.mk ho2
                    clear ho2 hE2
                    go_upto_region 29 with (first | (go_at_call 40; go_loud (refine (shift_ w1 _ B D y c3 53 100000000 301000 (by obtain ⟨v, h⟩ := HD3.out; exact ⟨v, h.drewN _⟩) HNY.out HC3.out (by omega) (by have := HLB.out; omega) (by have := HPB.out; omega) (by omega) (by have := HLB.out; omega) (by omega)).mono ?_; rintro e w5 ⟨rfl, hd5⟩; have D5 := Aside0.mk hd5; clear hd5; have hX : w5.heap[X]? = some (.cells #[.int .i64 52, .int .i64 11, .int .i64 (-1023)] 55 (0, 0)) := (by obtain ⟨_, h⟩ := D5.out; rw [h.2.2.1.2 X HXB.out HXD.out]; exact HBX.out); have g52 : w5.cell? ⟨X, 0, none⟩ = some (.int .i64 52) := (by rw [blk_cell hX]; rfl); have g11 : w5.cell? ⟨X, 1, none⟩ = some (.int .i64 11) := (by rw [blk_cell hX]; rfl); have gbb : w5.cell? ⟨X, 2, none⟩ = some (.int .i64 (-1023)) := (by rw [blk_cell hX]; rfl); clear hX)) | (go_at_call 44; go_loud (refine (whole_ w1 _ B D c3 D5.out HCB.out.1.1 (by have := HCB.out.2.1; have := HLB.out; omega) (by have := HCB.out.2.2.2; have := HPB.out; omega)).mono ?_; rintro e w6 ⟨rfl, rfl⟩; rw [← HMM.out])))
                    go_quiet (fail)
                    go_wp2
                    go_ret2
                    refine ⟨?_, HK0.out.trans ?_⟩
                    · rw [resC, ← HMM.out, finC, if_pos rfl, if_pos (by have := HO2.out; have := HE2.out; omega)]; rfl
                    · obtain ⟨_, h⟩ := D5.out
                      exact (h.drewN _).2.2.1
                  · have q5 : decide (2047 ≤ E2 + 1023) = false := decide_eq_false ho2
                    have HO2 := Aside0.mk ho2
                    clear ho2 hE2
                    go_upto_region 29 with (first | (go_at_call 40; go_loud (refine (shift_ w1 _ B D y c3 53 100000000 301000 (by obtain ⟨v, h⟩ := HD3.out; exact ⟨v, h.drewN _⟩) HNY.out HC3.out (by omega) (by have := HLB.out; omega) (by have := HPB.out; omega) (by omega) (by have := HLB.out; omega) (by omega)).mono ?_; rintro e w5 ⟨rfl, hd5⟩; have D5 := Aside0.mk hd5; clear hd5; have hX : w5.heap[X]? = some (.cells #[.int .i64 52, .int .i64 11, .int .i64 (-1023)] 55 (0, 0)) := (by obtain ⟨_, h⟩ := D5.out; rw [h.2.2.1.2 X HXB.out HXD.out]; exact HBX.out); have g52 : w5.cell? ⟨X, 0, none⟩ = some (.int .i64 52) := (by rw [blk_cell hX]; rfl); have g11 : w5.cell? ⟨X, 1, none⟩ = some (.int .i64 11) := (by rw [blk_cell hX]; rfl); have gbb : w5.cell? ⟨X, 2, none⟩ = some (.int .i64 (-1023)) := (by rw [blk_cell hX]; rfl); clear hX)) | (go_at_call 44; go_loud (refine (whole_ w1 _ B D c3 D5.out HCB.out.1.1 (by have := HCB.out.2.1; have := HLB.out; omega) (by have := HCB.out.2.2.2; have := HPB.out; omega)).mono ?_; rintro e w6 ⟨rfl, rfl⟩; rw [← HMM.out])))
                    go_quiet (fail)
                    go_upto_region 33 with (fail)
                    go_quiet (fail)
                    go_wp2
                    go_ret2
                    refine ⟨?_, HK0.out.trans ?_⟩
                    · rw [resC, ← HMM.out, finC, if_pos rfl, if_neg (by have := HO2.out; have := HE2.out; omega), ← HE2.out]; rfl
                    · obtain ⟨_, h⟩ := D5.out
                      exact ((h.drewN _).drewN _).2.2.1
                · have q3 : ((m : Int) == 9007199254740992) = false := beq_eq_false_iff_ne.mpr (by omega)
                  have HM53 := Aside0.mk hm53
                  clear hm53
                  by_cases hb0 : bits .and .u64 (m : Int) 4503599627370496 = 0
                  · have HB0 := Aside0.mk hb0
                    go_upto_region 33 with (first | (go_at_call 40; go_loud (refine (shift_ w1 _ B D y c3 53 100000000 301000 (by obtain ⟨v, h⟩ := HD3.out; exact ⟨v, h.drewN _⟩) HNY.out HC3.out (by omega) (by have := HLB.out; omega) (by have := HPB.out; omega) (by omega) (by have := HLB.out; omega) (by omega)).mono ?_; rintro e w5 ⟨rfl, hd5⟩; have D5 := Aside0.mk hd5; clear hd5; have hX : w5.heap[X]? = some (.cells #[.int .i64 52, .int .i64 11, .int .i64 (-1023)] 55 (0, 0)) := (by obtain ⟨_, h⟩ := D5.out; rw [h.2.2.1.2 X HXB.out HXD.out]; exact HBX.out); have g52 : w5.cell? ⟨X, 0, none⟩ = some (.int .i64 52) := (by rw [blk_cell hX]; rfl); have g11 : w5.cell? ⟨X, 1, none⟩ = some (.int .i64 11) := (by rw [blk_cell hX]; rfl); have gbb : w5.cell? ⟨X, 2, none⟩ = some (.int .i64 (-1023)) := (by rw [blk_cell hX]; rfl); clear hX)) | (go_at_call 44; go_loud (refine (whole_ w1 _ B D c3 D5.out HCB.out.1.1 (by have := HCB.out.2.1; have := HLB.out; omega) (by have := HCB.out.2.2.2; have := HPB.out; omega)).mono ?_; rintro e w6 ⟨rfl, rfl⟩; rw [← HMM.out])))
                    go_quiet (fail)
                    go_wp2
                    go_ret2
                    refine ⟨?_, HK0.out.trans ?_⟩
                    · rw [resC, ← HMM.out, finC, if_neg HM53.out, finE, if_pos HB0.out]; rfl
                    · obtain ⟨_, h⟩ := D5.out
                      exact (h.drewN _).2.2.1
                  · have q6 : (bits .and .u64 (m : Int) 4503599627370496 == 0) = false := beq_eq_false_iff_ne.mpr hb0
                    have HB0 := Aside0.mk hb0
                    clear hb0
                    go_upto_region 33 with (first | (go_at_call 40; go_loud (refine (shift_ w1 _ B D y c3 53 100000000 301000 (by obtain ⟨v, h⟩ := HD3.out; exact ⟨v, h.drewN _⟩) HNY.out HC3.out (by omega) (by have := HLB.out; omega) (by have := HPB.out; omega) (by omega) (by have := HLB.out; omega) (by omega)).mono ?_; rintro e w5 ⟨rfl, hd5⟩; have D5 := Aside0.mk hd5; clear hd5; have hX : w5.heap[X]? = some (.cells #[.int .i64 52, .int .i64 11, .int .i64 (-1023)] 55 (0, 0)) := (by obtain ⟨_, h⟩ := D5.out; rw [h.2.2.1.2 X HXB.out HXD.out]; exact HBX.out); have g52 : w5.cell? ⟨X, 0, none⟩ = some (.int .i64 52) := (by rw [blk_cell hX]; rfl); have g11 : w5.cell? ⟨X, 1, none⟩ = some (.int .i64 11) := (by rw [blk_cell hX]; rfl); have gbb : w5.cell? ⟨X, 2, none⟩ = some (.int .i64 (-1023)) := (by rw [blk_cell hX]; rfl); clear hX)) | (go_at_call 44; go_loud (refine (whole_ w1 _ B D c3 D5.out HCB.out.1.1 (by have := HCB.out.2.1; have := HLB.out; omega) (by have := HCB.out.2.2.2; have := HPB.out; omega)).mono ?_; rintro e w6 ⟨rfl, rfl⟩; rw [← HMM.out])))
                    go_quiet (fail)
                    go_wp2
                    go_ret2
                    refine ⟨?_, HK0.out.trans ?_⟩
                    · rw [resC, ← HMM.out, finC, if_neg HM53.out, finE, if_neg HB0.out]; rfl
                    · obtain ⟨_, h⟩ := D5.out
                      exact (h.drewN _).2.2.1
end Go.Proofs.YtnmochachiieaaaDoor.Hand
