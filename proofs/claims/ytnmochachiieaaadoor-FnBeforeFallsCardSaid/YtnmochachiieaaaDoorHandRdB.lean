/- What lightstrconv.read answers: the rounds over the digits, with a hexadecimal prefix. -/
import Derived.Test.YtnmochachiieaaaDoorHandPn
namespace Go.Proofs.YtnmochachiieaaaDoor.Hand
open Go.RowKit Go.Proofs.YtnmochachiieaaaDoorW.PrintWords Go.Proofs.YtnmochachiieaaaDoorW.PrintLast Go.Proofs.YtnmochachiieaaaDoorW.PrintMore Go.Proofs.YtnmochachiieaaaDoor.Base
open Go.Proofs.YtnmochachiieaaaDoor.Pf
set_option linter.unusedVariables false
set_option linter.unusedSimpArgs false
set_option maxHeartbeats 16000000 in
set_option maxRecDepth 100000 in
theorem readB (s : ByteArray) (w : World) (hs : s.size ≤ 1000) (hh : hexB s = true) :
    Calls Tryd.prog 25 #[.string s] w fun e w' => (readS s = none → e = .returned (.tuple #[.pointer none, .bool false]) ∧ Below w.heap.size w w') ∧
      (∀ c, readS s = some c → ∃ D, e = .returned (.tuple #[.pointer (some ⟨D, 0, none⟩), .bool true]) ∧ DecN w w.heap.size w' D c) := by
  have HHX := Aside0.mk hh
  have HSS := Aside0.mk hs
  clear hh
  have HD := Aside0.mk (show DecAt w w.heap.size (w.alloc (.cells #[.slice none 0 0, .int .i64 0] 75)) w.heap.size (.slice none 0 0) [] 0 from ⟨blk_new w _, Kd.R_nil _ _ _ _ _, ⟨below_alloc (Below.refl _ _) _, fun k hk _ => (below_alloc (Below.refl w.heap.size w) _).block k hk⟩, Nat.le_refl _, by simp⟩)
  go_enter Tryd.func25, Tryd.ntmps25
  go_upto_region 2 with (fail)
  change Code.wp _ _ _ _ (w.alloc (.cells #[.slice none 0 0, .int .i64 0] 75))
  generalize (w.alloc (.cells #[.slice none 0 0, .int .i64 0] 75)) = w1 at HD ⊢
  go_cut [5] from 17 to 17 (fun v5 wc => v5 = .bool (hexB s) ∧ Aside0 (DecAt w w.heap.size wc w.heap.size (.slice none 0 0) [] 0))
  case first =>
    clear HHX
    by_cases h2 : 2 ≤ s.size
    · obtain ⟨q0, hq0, g0⟩ := byte_at (s := s) (i := 0) (by omega)
      obtain ⟨q1, hq1, g1⟩ := byte_at (s := s) (i := 1) (by omega)
      have HT := Aside0.mk (hexB_two hq0 hq1)
      have l0 := q0.toNat_lt
      have l1 := (lowB q1).toNat_lt
      clear hq0 hq1
      by_cases h48 : q0.toNat = 48
      · have e1 : ((q0.toNat : Int) == 48) = true := beq_iff_eq.mpr (by omega)
        have HQ48 := Aside0.mk h48
        clear h48
        by_cases h120 : (lowB q1).toNat = 120
        · have e2 : (((lowB q1).toNat : Int) == 120) = true := beq_iff_eq.mpr (by omega)
          have H120 := Aside0.mk h120
          clear h120
          go_wp2_with (((go_at_call 37; with_reducible refine (lower_any q1 _).mono ?_); rintro e w' ⟨rfl, rfl⟩))
          go_meet
          case rel => exact ⟨by rw [HT.out, decide_eq_true HQ48.out, decide_eq_true H120.out] <;> rfl, HD⟩
        · have e2 : (((lowB q1).toNat : Int) == 120) = false := beq_eq_false_iff_ne.mpr (by omega)
          have H120 := Aside0.mk h120
          clear h120
          go_wp2_with (((go_at_call 37; with_reducible refine (lower_any q1 _).mono ?_); rintro e w' ⟨rfl, rfl⟩))
          go_meet
          case rel => exact ⟨by rw [HT.out, decide_eq_true HQ48.out, decide_eq_false H120.out] <;> rfl, HD⟩
      · have e1 : ((q0.toNat : Int) == 48) = false := beq_eq_false_iff_ne.mpr (by omega)
        have HQ48 := Aside0.mk h48
        clear h48
        go_wp2_with (((go_at_call 37; with_reducible refine (lower_any q1 _).mono ?_); rintro e w' ⟨rfl, rfl⟩))
        go_meet
        case rel => exact ⟨by rw [HT.out, decide_eq_false HQ48.out] <;> rfl, HD⟩
    · have HT := Aside0.mk (hexB_short h2)
      go_wp2
      go_meet
      case rel => exact ⟨by rw [HT.out] <;> rfl, HD⟩
  case rest =>
    clear HD
    obtain ⟨rfl, HD⟩ := hcut
    rw [HHX.out]
    have h2s : 2 ≤ s.size := by
      obtain ⟨q1, x0, x1, x2⟩ := hexB_yes HHX.out
      exact (at_byte x1).1
    obtain ⟨t, ht⟩ : ∃ t : ByteArray, s.extract 2 s.size = t := ⟨_, rfl⟩
    have htl : t.data.toList = s.data.toList.drop 2 := by rw [← ht, rest2_list]
    obtain ⟨fin, hfin⟩ : ∃ fin, fin = rdF true rs0 t.data.toList := ⟨_, rfl⟩
    have HRS : Aside0 (readS s = readC true fin.1 fin.2) := ⟨by rw [hfin, htl, readS, HHX.out]; rfl⟩
    have hts : t.size ≤ 1000 := by rw [← ht, ByteArray.size_extract]; omega
    have g2 : (2 : Int) ≤ (s.size : Int) := by omega
    clear HHX HSS htl hs h2s
    go_upto_block 0 with (fail)
    clear ht g2
    have hs := hts
    clear hts
    have HFIN := Aside0.mk hfin
    clear hfin
    go_cut [7, 8, 9, 10, 11] from 34 to 34 (fun v7 v8 v9 v10 v11 wx => ∃ i : Nat, v11 = .int .i64 (i : Int) ∧ Aside0 (i ≤ t.size) ∧ Aside0 (∃ st : Rs, v7 = .int .u64 (st.m : Int) ∧ v8 = .bool st.sm ∧ v9 = .bool st.dt ∧ v10 = .int .i64 st.ex ∧ fin = (st, t.data.toList.drop i) ∧ RInv st i ∧ DecN w w.heap.size wx w.heap.size st.a))
    case first =>
      go_wp2_with (fail)
      go_loopg [7, 8, 9, 10, 11] t.size (fun kq v7 v8 v9 v10 v11 w' => ∃ i : Nat, v11 = .int .i64 (i : Int) ∧ Aside0 (i + kq = t.size) ∧ Aside0 (RdS w true t.data.toList fin i v7 v8 v9 v10 w'))
      case atStart => exact ⟨0, rfl, ⟨by omega⟩, ⟨⟨rs0, rfl, rfl, rfl, rfl, HFIN.out.symm, rs0_inv, ⟨_, HD.out⟩⟩⟩⟩
      case round =>
        clear HD HFIN
        obtain ⟨i, rfl, HI, HR⟩ := hrel
        obtain ⟨⟨⟨l, dp⟩, m, sm, dt, ex⟩, rfl, rfl, rfl, rfl, hfin, hinv, hdec⟩ := HR.out
        have HFIN := Aside0.mk hfin
        have HINV := Aside0.mk hinv
        have HDEC := Aside0.mk hdec
        clear hfin hdec
        have m64 : m < 18446744073709551616 := hinv.m
        have r1 : l.length ≤ i := hinv.l
        have r2 : -(i : Int) ≤ dp := hinv.p1
        have r3 : dp ≤ (i : Int) := hinv.p2
        have r4 : -(4 * (i : Int)) ≤ ex := hinv.e1
        have r5 : ex ≤ 4 * (i : Int) := hinv.e2
        clear hinv
        have hit : i ≤ t.size := by have := HI.out; omega
        by_cases hin : i < t.size
        case neg =>
          have p1 : decide ((i : Int) < (t.size : Int)) = false := decide_eq_false (by omega)
          have p2 : decide (i < t.size) = false := decide_eq_false hin
          have HEND := Aside0.mk (rdF_end HFIN.out (by rw [← size_list]; omega))
          have HIT := Aside0.mk hit
          clear hin hit
          go_wp2
          go_meet
          case rel => exact ⟨i, rfl, HIT, ⟨⟨_, rfl, rfl, rfl, rfl, HEND.out, HINV.out, HDEC.out⟩⟩⟩
        case pos =>
          have p1 : decide ((i : Int) < (t.size : Int)) = true := decide_eq_true (by omega)
          have p2 : decide (i < t.size) = true := decide_eq_true hin
          have b1 : (0 : Int) ≤ (i : Int) := by omega
          have b2 : (i : Int) < (t.size : Int) := by omega
          have b3 : IntKind.i64.wrap ((i : Int) + 1) = ((i + 1 : Nat) : Int) := by rw [Go.IntWalk.i64_in _ (by omega)]; omega
          obtain ⟨q, hq, gq⟩ := byte_at (s := t) (i := i) hin
          have HQ := Aside0.mk hq
          have l0 := q.toNat_lt
          have l1 := (lowB q).toNat_lt
          clear hq
          by_cases h95 : q.toNat = 95
          · have e95 : ((q.toNat : Int) == 95) = true := beq_iff_eq.mpr (by omega)
            have HSTP : Aside0 (stp true ⟨⟨l, dp⟩, m, sm, dt, ex⟩ q = some ⟨⟨l, dp⟩, m, sm, dt, ex⟩) := ⟨by rw [stp, if_pos h95]⟩
            clear h95
            go_wp2
            go_roundg (gk - 1)
            case measure => have := HI.out; omega
            case rel => exact ⟨i + 1, by go_num, ⟨by have := HI.out; omega⟩, ⟨⟨_, rfl, rfl, rfl, rfl, rdF_step HFIN.out HQ.out HSTP.out, HINV.out.stp HSTP.out, HDEC.out⟩⟩⟩
          · have e95 : ((q.toNat : Int) == 95) = false := beq_eq_false_iff_ne.mpr (by omega)
            by_cases h46 : q.toNat = 46 ∧ dt = false
            · obtain ⟨h46, rfl⟩ := h46
              have e46 : ((q.toNat : Int) == 46) = true := beq_iff_eq.mpr (by omega)
              have HSTP : Aside0 (stp true ⟨⟨l, dp⟩, m, sm, false, ex⟩ q = some ⟨⟨l, dp⟩, m, sm, true, ex⟩) := ⟨by rw [stp, if_neg h95, if_pos ⟨h46, rfl⟩]⟩
              clear h95 h46
              go_wp2
              go_roundg (gk - 1)
              case measure => have := HI.out; omega
              case rel => exact ⟨i + 1, by go_num, ⟨by have := HI.out; omega⟩, ⟨⟨⟨⟨l, dp⟩, m, sm, true, ex⟩, rfl, rfl, rfl, rfl, rdF_step HFIN.out HQ.out HSTP.out, HINV.out.stp HSTP.out, HDEC.out⟩⟩⟩
            · have H95 := Aside0.mk h95
              have H46 := Aside0.mk h46
              clear h95
              by_cases hdg : 48 ≤ q.toNat ∧ q.toNat ≤ 57
              · obtain ⟨d, hd⟩ : ∃ d, d = q.toNat - 48 := ⟨_, rfl⟩
                have HV : Aside0 (digV true q = d) := ⟨by rw [digV, if_pos hdg, hd]⟩
                have hd10 : d < 10 := by omega
                have e46 : ((q.toNat : Int) == 46) = false := beq_eq_false_iff_ne.mpr (by omega)
                have g48 : decide ((48 : Int) ≤ (q.toNat : Int)) = true := decide_eq_true (by omega)
                have g57 : decide ((q.toNat : Int) ≤ 57) = true := decide_eq_true (by omega)
                have k61 : IntKind.u8.wrap ((q.toNat : Int) - 48) = (d : Int) := by
                  show ((q.toNat : Int) - 48) % 256 = _
                  omega
                have e16 : ((d : Int) == 16) = false := beq_eq_false_iff_ne.mpr (by omega)
                have HD16 := Aside0.mk (show d ≠ 16 by omega)
                clear h46 hdg hd
                have ke1 : IntKind.i64.wrap (ex - 4) = ex - 4 := Go.IntWalk.i64_in _ (by omega)
                have ke2 : IntKind.i64.wrap (ex + 4) = ex + 4 := Go.IntWalk.i64_in _ (by omega)
                obtain ⟨zz, hzz⟩ : ∃ zz, zz = m / 1152921504606846976 := ⟨_, rfl⟩
                have k60 : (m : Int) / 1152921504606846976 = (zz : Int) := by omega
                by_cases hz : zz = 0
                · have gz : ((zz : Int) == 0) = true := beq_iff_eq.mpr (by omega)
                  obtain ⟨m1, hm1⟩ : ∃ m1, m1 = m * 16 := ⟨_, rfl⟩
                  have k113 : IntKind.u64.wrap ((m : Int) * 16) = (m1 : Int) := by
                    show ((m : Int) * 16) % 18446744073709551616 = _
                    omega
                  obtain ⟨m2, hm2⟩ : ∃ m2, m2 = m1 ||| d := ⟨_, rfl⟩
                  have k116 : bits .or .u64 (m1 : Int) (d : Int) = (m2 : Int) := by rw [hm2]; exact u64_or_nat _ _ (by omega) (by omega)
                  have HMM : Aside0 (m / 1152921504606846976 = 0 ∧ m * 16 ||| d = m2) := ⟨by rw [← hzz]; exact hz, by rw [hm2, hm1]⟩
                  clear hz hzz hm1 hm2
                  cases dt
                  case false =>
                    have HSTP : Aside0 (stp true ⟨⟨l, dp⟩, m, sm, false, ex⟩ q = some ⟨⟨l, dp⟩, m2, true, false, ex⟩) := ⟨by rw [stp_dig H95.out H46.out HV.out HD16.out, eatD, if_pos rfl, if_pos HMM.out.1]; simp only [HMM.out.2]; rfl⟩
                    go_wp2
                    go_roundg (gk - 1)
                    case measure => have := HI.out; omega
                    case rel => exact ⟨i + 1, by go_num, ⟨by have := HI.out; omega⟩, ⟨⟨⟨⟨l, dp⟩, m2, true, false, ex⟩, rfl, rfl, rfl, rfl, rdF_step HFIN.out HQ.out HSTP.out, HINV.out.stp HSTP.out, HDEC.out⟩⟩⟩
                  case true =>
                    have HSTP : Aside0 (stp true ⟨⟨l, dp⟩, m, sm, true, ex⟩ q = some ⟨⟨l, dp⟩, m2, true, true, ex - 4⟩) := ⟨by rw [stp_dig H95.out H46.out HV.out HD16.out, eatD, if_pos rfl, if_pos HMM.out.1]; simp only [HMM.out.2]; rfl⟩
                    go_wp2
                    go_roundg (gk - 1)
                    case measure => have := HI.out; omega
                    case rel => exact ⟨i + 1, by go_num, ⟨by have := HI.out; omega⟩, ⟨⟨⟨⟨l, dp⟩, m2, true, true, ex - 4⟩, rfl, rfl, rfl, rfl, rdF_step HFIN.out HQ.out HSTP.out, HINV.out.stp HSTP.out, HDEC.out⟩⟩⟩
                · have gz : ((zz : Int) == 0) = false := beq_eq_false_iff_ne.mpr (by omega)
                  have HZZ : Aside0 (¬ m / 1152921504606846976 = 0) := ⟨by rw [← hzz]; exact hz⟩
                  clear hz hzz
                  by_cases hd0 : d = 0
                  · have gd : ((d : Int) != 0) = false := by rw [bne, beq_iff_eq.mpr (show (d : Int) = 0 by omega)]; rfl
                    have HD0 := Aside0.mk hd0
                    clear hd0
                    cases dt
                    case false =>
                      have HSTP : Aside0 (stp true ⟨⟨l, dp⟩, m, sm, false, ex⟩ q = some ⟨⟨l, dp⟩, m, true, false, ex + 4⟩) := ⟨by rw [stp_dig H95.out H46.out HV.out HD16.out, eatD, if_pos rfl, if_neg HZZ.out]; simp only [if_pos HD0.out]; rfl⟩
                      go_wp2
                      go_roundg (gk - 1)
                      case measure => have := HI.out; omega
                      case rel => exact ⟨i + 1, by go_num, ⟨by have := HI.out; omega⟩, ⟨⟨⟨⟨l, dp⟩, m, true, false, ex + 4⟩, rfl, rfl, rfl, rfl, rdF_step HFIN.out HQ.out HSTP.out, HINV.out.stp HSTP.out, HDEC.out⟩⟩⟩
                    case true =>
                      have HSTP : Aside0 (stp true ⟨⟨l, dp⟩, m, sm, true, ex⟩ q = some ⟨⟨l, dp⟩, m, true, true, ex⟩) := ⟨by rw [stp_dig H95.out H46.out HV.out HD16.out, eatD, if_pos rfl, if_neg HZZ.out]; simp only [if_pos HD0.out]; rfl⟩
                      go_wp2
                      go_roundg (gk - 1)
                      case measure => have := HI.out; omega
                      case rel => exact ⟨i + 1, by go_num, ⟨by have := HI.out; omega⟩, ⟨⟨⟨⟨l, dp⟩, m, true, true, ex⟩, rfl, rfl, rfl, rfl, rdF_step HFIN.out HQ.out HSTP.out, HINV.out.stp HSTP.out, HDEC.out⟩⟩⟩
                  · have gd : ((d : Int) != 0) = true := by rw [bne, beq_eq_false_iff_ne.mpr (show (d : Int) ≠ 0 by omega)]; rfl
                    have HD0 := Aside0.mk hd0
                    obtain ⟨m2, hm2⟩ : ∃ m2, m2 = m ||| 1 := ⟨_, rfl⟩
                    have k125 : bits .or .u64 (m : Int) 1 = (m2 : Int) := by rw [hm2]; exact u64_or_nat m 1 (by omega) (by omega)
                    have HM2 := Aside0.mk hm2
                    clear hm2 hd0
                    cases dt
                    case false =>
                      have HSTP : Aside0 (stp true ⟨⟨l, dp⟩, m, sm, false, ex⟩ q = some ⟨⟨l, dp⟩, m2, true, false, ex + 4⟩) := ⟨by rw [stp_dig H95.out H46.out HV.out HD16.out, eatD, if_pos rfl, if_neg HZZ.out]; simp only [if_neg HD0.out, ← HM2.out]; rfl⟩
                      go_wp2
                      go_roundg (gk - 1)
                      case measure => have := HI.out; omega
                      case rel => exact ⟨i + 1, by go_num, ⟨by have := HI.out; omega⟩, ⟨⟨⟨⟨l, dp⟩, m2, true, false, ex + 4⟩, rfl, rfl, rfl, rfl, rdF_step HFIN.out HQ.out HSTP.out, HINV.out.stp HSTP.out, HDEC.out⟩⟩⟩
                    case true =>
                      have HSTP : Aside0 (stp true ⟨⟨l, dp⟩, m, sm, true, ex⟩ q = some ⟨⟨l, dp⟩, m2, true, true, ex⟩) := ⟨by rw [stp_dig H95.out H46.out HV.out HD16.out, eatD, if_pos rfl, if_neg HZZ.out]; simp only [if_neg HD0.out, ← HM2.out]; rfl⟩
                      go_wp2
                      go_roundg (gk - 1)
                      case measure => have := HI.out; omega
                      case rel => exact ⟨i + 1, by go_num, ⟨by have := HI.out; omega⟩, ⟨⟨⟨⟨l, dp⟩, m2, true, true, ex⟩, rfl, rfl, rfl, rfl, rdF_step HFIN.out HQ.out HSTP.out, HINV.out.stp HSTP.out, HDEC.out⟩⟩⟩
              · by_cases hlw : 97 ≤ (lowB q).toNat ∧ (lowB q).toNat ≤ 102
                · obtain ⟨d, hd⟩ : ∃ d, d = (lowB q).toNat - 87 := ⟨_, rfl⟩
                  have HV : Aside0 (digV true q = d) := ⟨by rw [digV, if_neg hdg, if_pos ⟨rfl, hlw⟩, hd]⟩
                  have hd10 : d < 16 := by omega
                  obtain ⟨x, hx⟩ : ∃ x, x = (lowB q).toNat - 97 := ⟨_, rfl⟩
                  have k76 : IntKind.u8.wrap (((lowB q).toNat : Int) - 97) = (x : Int) := by
                    show (((lowB q).toNat : Int) - 97) % 256 = _
                    omega
                  have k77 : IntKind.u8.wrap ((x : Int) + 10) = (d : Int) := by
                    show ((x : Int) + 10) % 256 = _
                    omega
                  have e16 : ((d : Int) == 16) = false := beq_eq_false_iff_ne.mpr (by omega)
                  have HD16 := Aside0.mk (show d ≠ 16 by omega)
                  have g97 : decide ((97 : Int) ≤ ((lowB q).toNat : Int)) = true := decide_eq_true (by omega)
                  have g102 : decide (((lowB q).toNat : Int) ≤ 102) = true := decide_eq_true (by omega)
                  have e46 : ((q.toNat : Int) == 46) = false := beq_eq_false_iff_ne.mpr (fun h => by
                    have h1 : q = 46 := UInt8.toNat_inj.1 (show q.toNat = 46 by omega)
                    rw [h1] at hlw
                    exact absurd hlw.1 (by decide))
                  obtain ⟨b48, hb48⟩ : ∃ b, b = decide ((48 : Int) ≤ (q.toNat : Int)) := ⟨_, rfl⟩
                  have HB48 := Aside0.mk hb48
                  have h57 : b48 = true → decide ((q.toNat : Int) ≤ 57) = false := fun h => decide_eq_false (fun h2 => by rw [h] at hb48; have := of_decide_eq_true hb48.symm; exact hdg ⟨by omega, by omega⟩)
                  cases b48
                  case false =>
                    have g48 := hb48.symm
                    clear hb48 h57 hdg hlw hd hx h46
                    have ke1 : IntKind.i64.wrap (ex - 4) = ex - 4 := Go.IntWalk.i64_in _ (by omega)
                    have ke2 : IntKind.i64.wrap (ex + 4) = ex + 4 := Go.IntWalk.i64_in _ (by omega)
                    obtain ⟨zz, hzz⟩ : ∃ zz, zz = m / 1152921504606846976 := ⟨_, rfl⟩
                    have k60 : (m : Int) / 1152921504606846976 = (zz : Int) := by omega
                    by_cases hz : zz = 0
                    · have gz : ((zz : Int) == 0) = true := beq_iff_eq.mpr (by omega)
                      obtain ⟨m1, hm1⟩ : ∃ m1, m1 = m * 16 := ⟨_, rfl⟩
                      have k113 : IntKind.u64.wrap ((m : Int) * 16) = (m1 : Int) := by
                        show ((m : Int) * 16) % 18446744073709551616 = _
                        omega
                      obtain ⟨m2, hm2⟩ : ∃ m2, m2 = m1 ||| d := ⟨_, rfl⟩
                      have k116 : bits .or .u64 (m1 : Int) (d : Int) = (m2 : Int) := by rw [hm2]; exact u64_or_nat _ _ (by omega) (by omega)
                      have HMM : Aside0 (m / 1152921504606846976 = 0 ∧ m * 16 ||| d = m2) := ⟨by rw [← hzz]; exact hz, by rw [hm2, hm1]⟩
                      clear hz hzz hm1 hm2
                      cases dt
                      case false =>
                        have HSTP : Aside0 (stp true ⟨⟨l, dp⟩, m, sm, false, ex⟩ q = some ⟨⟨l, dp⟩, m2, true, false, ex⟩) := ⟨by rw [stp_dig H95.out H46.out HV.out HD16.out, eatD, if_pos rfl, if_pos HMM.out.1]; simp only [HMM.out.2]; rfl⟩
                        go_wp2_with (first | ((go_at_call 37; with_reducible refine (lower_any q _).mono ?_); rintro e w' ⟨rfl, rfl⟩) | ((go_at_call 37; with_reducible refine (lower_46 _).mono ?_); rintro e w' ⟨rfl, rfl⟩))
                        go_roundg (gk - 1)
                        case measure => have := HI.out; omega
                        case rel => exact ⟨i + 1, by go_num, ⟨by have := HI.out; omega⟩, ⟨⟨⟨⟨l, dp⟩, m2, true, false, ex⟩, rfl, rfl, rfl, rfl, rdF_step HFIN.out HQ.out HSTP.out, HINV.out.stp HSTP.out, HDEC.out⟩⟩⟩
                      case true =>
                        have HSTP : Aside0 (stp true ⟨⟨l, dp⟩, m, sm, true, ex⟩ q = some ⟨⟨l, dp⟩, m2, true, true, ex - 4⟩) := ⟨by rw [stp_dig H95.out H46.out HV.out HD16.out, eatD, if_pos rfl, if_pos HMM.out.1]; simp only [HMM.out.2]; rfl⟩
                        go_wp2_with (first | ((go_at_call 37; with_reducible refine (lower_any q _).mono ?_); rintro e w' ⟨rfl, rfl⟩) | ((go_at_call 37; with_reducible refine (lower_46 _).mono ?_); rintro e w' ⟨rfl, rfl⟩))
                        go_roundg (gk - 1)
                        case measure => have := HI.out; omega
                        case rel => exact ⟨i + 1, by go_num, ⟨by have := HI.out; omega⟩, ⟨⟨⟨⟨l, dp⟩, m2, true, true, ex - 4⟩, rfl, rfl, rfl, rfl, rdF_step HFIN.out HQ.out HSTP.out, HINV.out.stp HSTP.out, HDEC.out⟩⟩⟩
                    · have gz : ((zz : Int) == 0) = false := beq_eq_false_iff_ne.mpr (by omega)
                      have HZZ : Aside0 (¬ m / 1152921504606846976 = 0) := ⟨by rw [← hzz]; exact hz⟩
                      clear hz hzz
                      by_cases hd0 : d = 0
                      · have gd : ((d : Int) != 0) = false := by rw [bne, beq_iff_eq.mpr (show (d : Int) = 0 by omega)]; rfl
                        have HD0 := Aside0.mk hd0
                        clear hd0
                        cases dt
                        case false =>
                          have HSTP : Aside0 (stp true ⟨⟨l, dp⟩, m, sm, false, ex⟩ q = some ⟨⟨l, dp⟩, m, true, false, ex + 4⟩) := ⟨by rw [stp_dig H95.out H46.out HV.out HD16.out, eatD, if_pos rfl, if_neg HZZ.out]; simp only [if_pos HD0.out]; rfl⟩
                          go_wp2_with (first | ((go_at_call 37; with_reducible refine (lower_any q _).mono ?_); rintro e w' ⟨rfl, rfl⟩) | ((go_at_call 37; with_reducible refine (lower_46 _).mono ?_); rintro e w' ⟨rfl, rfl⟩))
                          go_roundg (gk - 1)
                          case measure => have := HI.out; omega
                          case rel => exact ⟨i + 1, by go_num, ⟨by have := HI.out; omega⟩, ⟨⟨⟨⟨l, dp⟩, m, true, false, ex + 4⟩, rfl, rfl, rfl, rfl, rdF_step HFIN.out HQ.out HSTP.out, HINV.out.stp HSTP.out, HDEC.out⟩⟩⟩
                        case true =>
                          have HSTP : Aside0 (stp true ⟨⟨l, dp⟩, m, sm, true, ex⟩ q = some ⟨⟨l, dp⟩, m, true, true, ex⟩) := ⟨by rw [stp_dig H95.out H46.out HV.out HD16.out, eatD, if_pos rfl, if_neg HZZ.out]; simp only [if_pos HD0.out]; rfl⟩
                          go_wp2_with (first | ((go_at_call 37; with_reducible refine (lower_any q _).mono ?_); rintro e w' ⟨rfl, rfl⟩) | ((go_at_call 37; with_reducible refine (lower_46 _).mono ?_); rintro e w' ⟨rfl, rfl⟩))
                          go_roundg (gk - 1)
                          case measure => have := HI.out; omega
                          case rel => exact ⟨i + 1, by go_num, ⟨by have := HI.out; omega⟩, ⟨⟨⟨⟨l, dp⟩, m, true, true, ex⟩, rfl, rfl, rfl, rfl, rdF_step HFIN.out HQ.out HSTP.out, HINV.out.stp HSTP.out, HDEC.out⟩⟩⟩
                      · have gd : ((d : Int) != 0) = true := by rw [bne, beq_eq_false_iff_ne.mpr (show (d : Int) ≠ 0 by omega)]; rfl
                        have HD0 := Aside0.mk hd0
                        obtain ⟨m2, hm2⟩ : ∃ m2, m2 = m ||| 1 := ⟨_, rfl⟩
                        have k125 : bits .or .u64 (m : Int) 1 = (m2 : Int) := by rw [hm2]; exact u64_or_nat m 1 (by omega) (by omega)
                        have HM2 := Aside0.mk hm2
                        clear hm2 hd0
                        cases dt
                        case false =>
                          have HSTP : Aside0 (stp true ⟨⟨l, dp⟩, m, sm, false, ex⟩ q = some ⟨⟨l, dp⟩, m2, true, false, ex + 4⟩) := ⟨by rw [stp_dig H95.out H46.out HV.out HD16.out, eatD, if_pos rfl, if_neg HZZ.out]; simp only [if_neg HD0.out, ← HM2.out]; rfl⟩
                          go_wp2_with (first | ((go_at_call 37; with_reducible refine (lower_any q _).mono ?_); rintro e w' ⟨rfl, rfl⟩) | ((go_at_call 37; with_reducible refine (lower_46 _).mono ?_); rintro e w' ⟨rfl, rfl⟩))
                          go_roundg (gk - 1)
                          case measure => have := HI.out; omega
                          case rel => exact ⟨i + 1, by go_num, ⟨by have := HI.out; omega⟩, ⟨⟨⟨⟨l, dp⟩, m2, true, false, ex + 4⟩, rfl, rfl, rfl, rfl, rdF_step HFIN.out HQ.out HSTP.out, HINV.out.stp HSTP.out, HDEC.out⟩⟩⟩
                        case true =>
                          have HSTP : Aside0 (stp true ⟨⟨l, dp⟩, m, sm, true, ex⟩ q = some ⟨⟨l, dp⟩, m2, true, true, ex⟩) := ⟨by rw [stp_dig H95.out H46.out HV.out HD16.out, eatD, if_pos rfl, if_neg HZZ.out]; simp only [if_neg HD0.out, ← HM2.out]; rfl⟩
                          go_wp2_with (first | ((go_at_call 37; with_reducible refine (lower_any q _).mono ?_); rintro e w' ⟨rfl, rfl⟩) | ((go_at_call 37; with_reducible refine (lower_46 _).mono ?_); rintro e w' ⟨rfl, rfl⟩))
                          go_roundg (gk - 1)
                          case measure => have := HI.out; omega
                          case rel => exact ⟨i + 1, by go_num, ⟨by have := HI.out; omega⟩, ⟨⟨⟨⟨l, dp⟩, m2, true, true, ex⟩, rfl, rfl, rfl, rfl, rdF_step HFIN.out HQ.out HSTP.out, HINV.out.stp HSTP.out, HDEC.out⟩⟩⟩
                  case true =>
                    have g57 := h57 rfl
                    have g48 := hb48.symm
                    clear hb48 h57 hdg hlw hd hx h46
                    have ke1 : IntKind.i64.wrap (ex - 4) = ex - 4 := Go.IntWalk.i64_in _ (by omega)
                    have ke2 : IntKind.i64.wrap (ex + 4) = ex + 4 := Go.IntWalk.i64_in _ (by omega)
                    obtain ⟨zz, hzz⟩ : ∃ zz, zz = m / 1152921504606846976 := ⟨_, rfl⟩
                    have k60 : (m : Int) / 1152921504606846976 = (zz : Int) := by omega
                    by_cases hz : zz = 0
                    · have gz : ((zz : Int) == 0) = true := beq_iff_eq.mpr (by omega)
                      obtain ⟨m1, hm1⟩ : ∃ m1, m1 = m * 16 := ⟨_, rfl⟩
                      have k113 : IntKind.u64.wrap ((m : Int) * 16) = (m1 : Int) := by
                        show ((m : Int) * 16) % 18446744073709551616 = _
                        omega
                      obtain ⟨m2, hm2⟩ : ∃ m2, m2 = m1 ||| d := ⟨_, rfl⟩
                      have k116 : bits .or .u64 (m1 : Int) (d : Int) = (m2 : Int) := by rw [hm2]; exact u64_or_nat _ _ (by omega) (by omega)
                      have HMM : Aside0 (m / 1152921504606846976 = 0 ∧ m * 16 ||| d = m2) := ⟨by rw [← hzz]; exact hz, by rw [hm2, hm1]⟩
                      clear hz hzz hm1 hm2
                      cases dt
                      case false =>
                        have HSTP : Aside0 (stp true ⟨⟨l, dp⟩, m, sm, false, ex⟩ q = some ⟨⟨l, dp⟩, m2, true, false, ex⟩) := ⟨by rw [stp_dig H95.out H46.out HV.out HD16.out, eatD, if_pos rfl, if_pos HMM.out.1]; simp only [HMM.out.2]; rfl⟩
                        go_wp2_with (first | ((go_at_call 37; with_reducible refine (lower_any q _).mono ?_); rintro e w' ⟨rfl, rfl⟩) | ((go_at_call 37; with_reducible refine (lower_46 _).mono ?_); rintro e w' ⟨rfl, rfl⟩))
                        go_roundg (gk - 1)
                        case measure => have := HI.out; omega
                        case rel => exact ⟨i + 1, by go_num, ⟨by have := HI.out; omega⟩, ⟨⟨⟨⟨l, dp⟩, m2, true, false, ex⟩, rfl, rfl, rfl, rfl, rdF_step HFIN.out HQ.out HSTP.out, HINV.out.stp HSTP.out, HDEC.out⟩⟩⟩
                      case true =>
                        have HSTP : Aside0 (stp true ⟨⟨l, dp⟩, m, sm, true, ex⟩ q = some ⟨⟨l, dp⟩, m2, true, true, ex - 4⟩) := ⟨by rw [stp_dig H95.out H46.out HV.out HD16.out, eatD, if_pos rfl, if_pos HMM.out.1]; simp only [HMM.out.2]; rfl⟩
                        go_wp2_with (first | ((go_at_call 37; with_reducible refine (lower_any q _).mono ?_); rintro e w' ⟨rfl, rfl⟩) | ((go_at_call 37; with_reducible refine (lower_46 _).mono ?_); rintro e w' ⟨rfl, rfl⟩))
                        go_roundg (gk - 1)
                        case measure => have := HI.out; omega
                        case rel => exact ⟨i + 1, by go_num, ⟨by have := HI.out; omega⟩, ⟨⟨⟨⟨l, dp⟩, m2, true, true, ex - 4⟩, rfl, rfl, rfl, rfl, rdF_step HFIN.out HQ.out HSTP.out, HINV.out.stp HSTP.out, HDEC.out⟩⟩⟩
                    · have gz : ((zz : Int) == 0) = false := beq_eq_false_iff_ne.mpr (by omega)
                      have HZZ : Aside0 (¬ m / 1152921504606846976 = 0) := ⟨by rw [← hzz]; exact hz⟩
                      clear hz hzz
                      by_cases hd0 : d = 0
                      · have gd : ((d : Int) != 0) = false := by rw [bne, beq_iff_eq.mpr (show (d : Int) = 0 by omega)]; rfl
                        have HD0 := Aside0.mk hd0
                        clear hd0
                        cases dt
                        case false =>
                          have HSTP : Aside0 (stp true ⟨⟨l, dp⟩, m, sm, false, ex⟩ q = some ⟨⟨l, dp⟩, m, true, false, ex + 4⟩) := ⟨by rw [stp_dig H95.out H46.out HV.out HD16.out, eatD, if_pos rfl, if_neg HZZ.out]; simp only [if_pos HD0.out]; rfl⟩
                          go_wp2_with (first | ((go_at_call 37; with_reducible refine (lower_any q _).mono ?_); rintro e w' ⟨rfl, rfl⟩) | ((go_at_call 37; with_reducible refine (lower_46 _).mono ?_); rintro e w' ⟨rfl, rfl⟩))
                          go_roundg (gk - 1)
                          case measure => have := HI.out; omega
                          case rel => exact ⟨i + 1, by go_num, ⟨by have := HI.out; omega⟩, ⟨⟨⟨⟨l, dp⟩, m, true, false, ex + 4⟩, rfl, rfl, rfl, rfl, rdF_step HFIN.out HQ.out HSTP.out, HINV.out.stp HSTP.out, HDEC.out⟩⟩⟩
                        case true =>
                          have HSTP : Aside0 (stp true ⟨⟨l, dp⟩, m, sm, true, ex⟩ q = some ⟨⟨l, dp⟩, m, true, true, ex⟩) := ⟨by rw [stp_dig H95.out H46.out HV.out HD16.out, eatD, if_pos rfl, if_neg HZZ.out]; simp only [if_pos HD0.out]; rfl⟩
                          go_wp2_with (first | ((go_at_call 37; with_reducible refine (lower_any q _).mono ?_); rintro e w' ⟨rfl, rfl⟩) | ((go_at_call 37; with_reducible refine (lower_46 _).mono ?_); rintro e w' ⟨rfl, rfl⟩))
                          go_roundg (gk - 1)
                          case measure => have := HI.out; omega
                          case rel => exact ⟨i + 1, by go_num, ⟨by have := HI.out; omega⟩, ⟨⟨⟨⟨l, dp⟩, m, true, true, ex⟩, rfl, rfl, rfl, rfl, rdF_step HFIN.out HQ.out HSTP.out, HINV.out.stp HSTP.out, HDEC.out⟩⟩⟩
                      · have gd : ((d : Int) != 0) = true := by rw [bne, beq_eq_false_iff_ne.mpr (show (d : Int) ≠ 0 by omega)]; rfl
                        have HD0 := Aside0.mk hd0
                        obtain ⟨m2, hm2⟩ : ∃ m2, m2 = m ||| 1 := ⟨_, rfl⟩
                        have k125 : bits .or .u64 (m : Int) 1 = (m2 : Int) := by rw [hm2]; exact u64_or_nat m 1 (by omega) (by omega)
                        have HM2 := Aside0.mk hm2
                        clear hm2 hd0
                        cases dt
                        case false =>
                          have HSTP : Aside0 (stp true ⟨⟨l, dp⟩, m, sm, false, ex⟩ q = some ⟨⟨l, dp⟩, m2, true, false, ex + 4⟩) := ⟨by rw [stp_dig H95.out H46.out HV.out HD16.out, eatD, if_pos rfl, if_neg HZZ.out]; simp only [if_neg HD0.out, ← HM2.out]; rfl⟩
                          go_wp2_with (first | ((go_at_call 37; with_reducible refine (lower_any q _).mono ?_); rintro e w' ⟨rfl, rfl⟩) | ((go_at_call 37; with_reducible refine (lower_46 _).mono ?_); rintro e w' ⟨rfl, rfl⟩))
                          go_roundg (gk - 1)
                          case measure => have := HI.out; omega
                          case rel => exact ⟨i + 1, by go_num, ⟨by have := HI.out; omega⟩, ⟨⟨⟨⟨l, dp⟩, m2, true, false, ex + 4⟩, rfl, rfl, rfl, rfl, rdF_step HFIN.out HQ.out HSTP.out, HINV.out.stp HSTP.out, HDEC.out⟩⟩⟩
                        case true =>
                          have HSTP : Aside0 (stp true ⟨⟨l, dp⟩, m, sm, true, ex⟩ q = some ⟨⟨l, dp⟩, m2, true, true, ex⟩) := ⟨by rw [stp_dig H95.out H46.out HV.out HD16.out, eatD, if_pos rfl, if_neg HZZ.out]; simp only [if_neg HD0.out, ← HM2.out]; rfl⟩
                          go_wp2_with (first | ((go_at_call 37; with_reducible refine (lower_any q _).mono ?_); rintro e w' ⟨rfl, rfl⟩) | ((go_at_call 37; with_reducible refine (lower_46 _).mono ?_); rintro e w' ⟨rfl, rfl⟩))
                          go_roundg (gk - 1)
                          case measure => have := HI.out; omega
                          case rel => exact ⟨i + 1, by go_num, ⟨by have := HI.out; omega⟩, ⟨⟨⟨⟨l, dp⟩, m2, true, true, ex⟩, rfl, rfl, rfl, rfl, rdF_step HFIN.out HQ.out HSTP.out, HINV.out.stp HSTP.out, HDEC.out⟩⟩⟩
                · have HV : Aside0 (digV true q = 16) := ⟨by rw [digV, if_neg hdg, if_neg (fun h => hlw h.2)]⟩
                  rcases Nat.lt_or_ge (lowB q).toNat 97 with hl1 | hl1
                  · have g97 : decide ((97 : Int) ≤ ((lowB q).toNat : Int)) = false := decide_eq_false (by omega)
                    clear hlw hl1
                    have HIT := Aside0.mk hit
                    have HEND := Aside0.mk (rdF_stop HFIN.out HQ.out (stp_none H95.out H46.out HV.out))
                    rcases Nat.lt_or_ge q.toNat 48 with hq1 | hq1
                    · have g48 : decide ((48 : Int) ≤ (q.toNat : Int)) = false := decide_eq_false (by omega)
                      by_cases hp : q.toNat = 46
                      · have e46 : ((q.toNat : Int) == 46) = true := beq_iff_eq.mpr (by omega)
                        have hdt : dt = true := by
                          cases dt
                          · exact absurd ⟨hp, rfl⟩ h46
                          · rfl
                        subst hdt
                        clear hp h46 hdg hq1
                        go_wp2_with (first | ((go_at_call 37; with_reducible refine (lower_any q _).mono ?_); rintro e w' ⟨rfl, rfl⟩) | ((go_at_call 37; with_reducible refine (lower_46 _).mono ?_); rintro e w' ⟨rfl, rfl⟩))
                        go_meet
                        case rel => exact ⟨i, rfl, HIT, ⟨⟨_, rfl, rfl, rfl, rfl, HEND.out, HINV.out, HDEC.out⟩⟩⟩
                      · have e46 : ((q.toNat : Int) == 46) = false := beq_eq_false_iff_ne.mpr (by omega)
                        clear hp h46 hdg hq1
                        go_wp2_with (first | ((go_at_call 37; with_reducible refine (lower_any q _).mono ?_); rintro e w' ⟨rfl, rfl⟩) | ((go_at_call 37; with_reducible refine (lower_46 _).mono ?_); rintro e w' ⟨rfl, rfl⟩))
                        go_meet
                        case rel => exact ⟨i, rfl, HIT, ⟨⟨_, rfl, rfl, rfl, rfl, HEND.out, HINV.out, HDEC.out⟩⟩⟩
                    · have g48 : decide ((48 : Int) ≤ (q.toNat : Int)) = true := decide_eq_true (by omega)
                      have g57 : decide ((q.toNat : Int) ≤ 57) = false := decide_eq_false (by omega)
                      by_cases hp : q.toNat = 46
                      · have e46 : ((q.toNat : Int) == 46) = true := beq_iff_eq.mpr (by omega)
                        have hdt : dt = true := by
                          cases dt
                          · exact absurd ⟨hp, rfl⟩ h46
                          · rfl
                        subst hdt
                        clear hp h46 hdg hq1
                        go_wp2_with (first | ((go_at_call 37; with_reducible refine (lower_any q _).mono ?_); rintro e w' ⟨rfl, rfl⟩) | ((go_at_call 37; with_reducible refine (lower_46 _).mono ?_); rintro e w' ⟨rfl, rfl⟩))
                        go_meet
                        case rel => exact ⟨i, rfl, HIT, ⟨⟨_, rfl, rfl, rfl, rfl, HEND.out, HINV.out, HDEC.out⟩⟩⟩
                      · have e46 : ((q.toNat : Int) == 46) = false := beq_eq_false_iff_ne.mpr (by omega)
                        clear hp h46 hdg hq1
                        go_wp2_with (first | ((go_at_call 37; with_reducible refine (lower_any q _).mono ?_); rintro e w' ⟨rfl, rfl⟩) | ((go_at_call 37; with_reducible refine (lower_46 _).mono ?_); rintro e w' ⟨rfl, rfl⟩))
                        go_meet
                        case rel => exact ⟨i, rfl, HIT, ⟨⟨_, rfl, rfl, rfl, rfl, HEND.out, HINV.out, HDEC.out⟩⟩⟩
                  · have g97 : decide ((97 : Int) ≤ ((lowB q).toNat : Int)) = true := decide_eq_true (by omega)
                    have g102 : decide (((lowB q).toNat : Int) ≤ 102) = false := decide_eq_false (by omega)
                    clear hlw hl1
                    have HIT := Aside0.mk hit
                    have HEND := Aside0.mk (rdF_stop HFIN.out HQ.out (stp_none H95.out H46.out HV.out))
                    rcases Nat.lt_or_ge q.toNat 48 with hq1 | hq1
                    · have g48 : decide ((48 : Int) ≤ (q.toNat : Int)) = false := decide_eq_false (by omega)
                      by_cases hp : q.toNat = 46
                      · have e46 : ((q.toNat : Int) == 46) = true := beq_iff_eq.mpr (by omega)
                        have hdt : dt = true := by
                          cases dt
                          · exact absurd ⟨hp, rfl⟩ h46
                          · rfl
                        subst hdt
                        clear hp h46 hdg hq1
                        go_wp2_with (first | ((go_at_call 37; with_reducible refine (lower_any q _).mono ?_); rintro e w' ⟨rfl, rfl⟩) | ((go_at_call 37; with_reducible refine (lower_46 _).mono ?_); rintro e w' ⟨rfl, rfl⟩))
                        go_meet
                        case rel => exact ⟨i, rfl, HIT, ⟨⟨_, rfl, rfl, rfl, rfl, HEND.out, HINV.out, HDEC.out⟩⟩⟩
                      · have e46 : ((q.toNat : Int) == 46) = false := beq_eq_false_iff_ne.mpr (by omega)
                        clear hp h46 hdg hq1
                        go_wp2_with (first | ((go_at_call 37; with_reducible refine (lower_any q _).mono ?_); rintro e w' ⟨rfl, rfl⟩) | ((go_at_call 37; with_reducible refine (lower_46 _).mono ?_); rintro e w' ⟨rfl, rfl⟩))
                        go_meet
                        case rel => exact ⟨i, rfl, HIT, ⟨⟨_, rfl, rfl, rfl, rfl, HEND.out, HINV.out, HDEC.out⟩⟩⟩
                    · have g48 : decide ((48 : Int) ≤ (q.toNat : Int)) = true := decide_eq_true (by omega)
                      have g57 : decide ((q.toNat : Int) ≤ 57) = false := decide_eq_false (by omega)
                      by_cases hp : q.toNat = 46
                      · have e46 : ((q.toNat : Int) == 46) = true := beq_iff_eq.mpr (by omega)
                        have hdt : dt = true := by
                          cases dt
                          · exact absurd ⟨hp, rfl⟩ h46
                          · rfl
                        subst hdt
                        clear hp h46 hdg hq1
                        go_wp2_with (first | ((go_at_call 37; with_reducible refine (lower_any q _).mono ?_); rintro e w' ⟨rfl, rfl⟩) | ((go_at_call 37; with_reducible refine (lower_46 _).mono ?_); rintro e w' ⟨rfl, rfl⟩))
                        go_meet
                        case rel => exact ⟨i, rfl, HIT, ⟨⟨_, rfl, rfl, rfl, rfl, HEND.out, HINV.out, HDEC.out⟩⟩⟩
                      · have e46 : ((q.toNat : Int) == 46) = false := beq_eq_false_iff_ne.mpr (by omega)
                        clear hp h46 hdg hq1
                        go_wp2_with (first | ((go_at_call 37; with_reducible refine (lower_any q _).mono ?_); rintro e w' ⟨rfl, rfl⟩) | ((go_at_call 37; with_reducible refine (lower_46 _).mono ?_); rintro e w' ⟨rfl, rfl⟩))
                        go_meet
                        case rel => exact ⟨i, rfl, HIT, ⟨⟨_, rfl, rfl, rfl, rfl, HEND.out, HINV.out, HDEC.out⟩⟩⟩
    case rest =>
      clear HD
      obtain ⟨i, rfl, HIT, HST⟩ := hcut
      obtain ⟨⟨⟨l, dp⟩, m, sm, dt, ex⟩, rfl, rfl, rfl, rfl, hfe, hinv, hdec⟩ := HST.out
      have HRES : Aside0 (readS s = readC true ⟨⟨l, dp⟩, m, sm, dt, ex⟩ (t.data.toList.drop i)) := ⟨by have := HRS.out; rw [hfe] at this; exact this⟩
      have HDEC := Aside0.mk hdec
      have HBL : Aside0 (Below w.heap.size w wc) := ⟨by obtain ⟨_, h⟩ := hdec; exact h.2.2.1.1⟩
      have HINV := Aside0.mk hinv
      have hit := HIT.out
      clear hfe hdec hinv HST HRS HFIN
      have r4 : -4000 ≤ ex := by have := HINV.out.e1; simp only at this; omega
      have r5 : ex ≤ 4000 := by have := HINV.out.e2; simp only at this; omega
      cases sm
      case false =>
        go_wp2
        go_ret2
        refine ⟨fun _ => ⟨rfl, HBL.out⟩, fun c h => ?_⟩
        rw [HRES.out, readC_no rfl] at h
        cases h
      case true =>
        by_cases hi : i < t.size
        case neg =>
          have p1 : decide ((i : Int) < (t.size : Int)) = false := decide_eq_false (by omega)
          have p2 : decide (i < t.size) = false := decide_eq_false hi
          have hdr : t.data.toList.drop i = [] := List.drop_eq_nil_of_le (by rw [← size_list]; omega)
          have HT : Aside0 (tailF true ex (t.data.toList.drop i) = none) := ⟨by rw [hdr]; rfl⟩
          clear hdr hi
          go_wp2
          go_ret2
          refine ⟨fun _ => ⟨rfl, HBL.out⟩, fun c h => ?_⟩
          rw [HRES.out, readC_none HT.out] at h
          cases h
        case pos =>
          have p1 : decide ((i : Int) < (t.size : Int)) = true := decide_eq_true (by omega)
          have p2 : decide (i < t.size) = true := decide_eq_true hi
          have b1 : (0 : Int) ≤ (i : Int) := by omega
          have b2 : (i : Int) < (t.size : Int) := by omega
          obtain ⟨q, hq, gq⟩ := byte_at (s := t) (i := i) hi
          have hdr := drop_at hq
          have l0 := q.toNat_lt
          have l1 := (lowB q).toNat_lt
          clear hq
          by_cases hmk : (lowB q).toNat = 112
          case neg =>
            have e1 : (((lowB q).toNat : Int) == 112) = false := beq_eq_false_iff_ne.mpr (by omega)
            have HT : Aside0 (tailF true ex (t.data.toList.drop i) = none) := ⟨by rw [hdr, tailF]; exact (if_neg hmk).trans rfl⟩
            clear hdr hmk
            go_wp2_with (first | ((go_at_call 37; with_reducible refine (lower_any q _).mono ?_); rintro e w' ⟨rfl, rfl⟩))
            go_ret2
            refine ⟨fun _ => ⟨rfl, HBL.out⟩, fun c h => ?_⟩
            rw [HRES.out, readC_none HT.out] at h
            cases h
          case pos =>
            have e1 : (((lowB q).toNat : Int) == 112) = true := beq_iff_eq.mpr (by omega)
            have HTG : Aside0 (tailF true ex (t.data.toList.drop i) = tailG ex (t.data.toList.drop (i + 1))) := ⟨by rw [hdr, tailF]; exact if_pos hmk⟩
            obtain ⟨j, hj⟩ : ∃ j, j = i + 1 := ⟨_, rfl⟩
            have k1 : IntKind.i64.wrap ((i : Int) + 1) = (j : Int) := by rw [Go.IntWalk.i64_in _ (by omega)]; omega
            rw [← hj] at HTG
            have hjt : j ≤ t.size := by omega
            have hij : (i : Int) + 1 = (j : Int) := by omega
            clear hdr hmk hj
            go_upto_region 39 with (first | ((go_at_call 37; with_reducible refine (lower_any q _).mono ?_); rintro e w' ⟨rfl, rfl⟩))
            clear p1 p2 b1 b2 gq l0 l1 e1 k1
            clear hi
            try rw [hij]
            clear hij
            by_cases hjj : j < t.size
            case neg =>
              have p1 : decide ((j : Int) < (t.size : Int)) = false := decide_eq_false (by omega)
              have p2 : decide (j < t.size) = false := decide_eq_false hjj
              have p3 : decide ((t.size : Int) ≤ (j : Int)) = true := decide_eq_true (by omega)
              have p4 : decide (t.size ≤ j) = true := decide_eq_true (by omega)
              have HT : Aside0 (tailF true ex (t.data.toList.drop i) = none) := ⟨by rw [HTG.out, drop_end (t := t) (i := j) (by omega)]; rfl⟩
              clear hjj hjt
              go_wp2
              go_ret2
              refine ⟨fun _ => ⟨rfl, HBL.out⟩, fun c h => ?_⟩
              rw [HRES.out, readC_none HT.out] at h
              cases h
            case pos =>
              have p1 : decide ((j : Int) < (t.size : Int)) = true := decide_eq_true (by omega)
              have p2 : decide (j < t.size) = true := decide_eq_true hjj
              have b1 : (0 : Int) ≤ (j : Int) := by omega
              have b2 : (j : Int) < (t.size : Int) := by omega
              obtain ⟨q2, hq2, gq2⟩ := byte_at (s := t) (i := j) hjj
              have hdr := drop_at hq2
              have HDR := Aside0.mk hdr
              have l0 := q2.toNat_lt
              obtain ⟨dn, hdn⟩ : ∃ dn, dn = decide (q2.toNat = 45) := ⟨_, rfl⟩
              obtain ⟨sg, hsg⟩ : ∃ sg, sg = decide (q2.toNat = 43 ∨ q2.toNat = 45) := ⟨_, rfl⟩
              have HDN := Aside0.mk hdn
              have HSG := Aside0.mk hsg
              clear hq2 hdr hdn hsg
              go_cut [14] from 146 to 146 (fun v14 wx => v14 = .bool dn ∧ wx = wc)
              case first =>
                by_cases h45 : q2.toNat = 45
                case pos =>
                  have e45 : ((q2.toNat : Int) == 45) = true := beq_iff_eq.mpr (by omega)
                  have HX2 : Aside0 (dn = true) := ⟨by rw [HDN.out]; exact decide_eq_true h45⟩
                  clear h45
                  go_wp2
                  go_meet
                  case rel => exact ⟨by rw [HX2.out], rfl⟩
                case neg =>
                  have e45 : ((q2.toNat : Int) == 45) = false := beq_eq_false_iff_ne.mpr (by omega)
                  have HX2 : Aside0 (dn = false) := ⟨by rw [HDN.out]; exact decide_eq_false h45⟩
                  clear h45
                  go_wp2
                  go_meet
                  case rel => exact ⟨by rw [HX2.out], rfl⟩
              case rest =>
                obtain ⟨rfl, rfl⟩ := hcut
                go_upto_region 40 with (fail)
                go_cut [171] from 156 to 156 (fun v171 wx => v171 = .bool sg ∧ wx = wc)
                case first =>
                  by_cases h43 : q2.toNat = 43
                  case pos =>
                    have e43 : ((q2.toNat : Int) == 43) = true := beq_iff_eq.mpr (by omega)
                    have HX2 : Aside0 (sg = true) := ⟨by rw [HSG.out]; exact decide_eq_true (.inl h43)⟩
                    clear h43
                    go_wp2
                    go_meet
                    case rel => exact ⟨by rw [HX2.out], rfl⟩
                  case neg =>
                    have e43 : ((q2.toNat : Int) == 43) = false := beq_eq_false_iff_ne.mpr (by omega)
                    by_cases h45 : q2.toNat = 45
                    case pos =>
                      have e45 : ((q2.toNat : Int) == 45) = true := beq_iff_eq.mpr (by omega)
                      have HX2 : Aside0 (sg = true) := ⟨by rw [HSG.out]; exact decide_eq_true (.inr h45)⟩
                      clear h45 h43
                      go_wp2
                      go_meet
                      case rel => exact ⟨by rw [HX2.out], rfl⟩
                    case neg =>
                      have e45 : ((q2.toNat : Int) == 45) = false := beq_eq_false_iff_ne.mpr (by omega)
                      have HX2 : Aside0 (sg = false) := ⟨by rw [HSG.out]; exact decide_eq_false (fun h => h.elim h43 h45)⟩
                      clear h45 h43
                      go_wp2
                      go_meet
                      case rel => exact ⟨by rw [HX2.out], rfl⟩
                case rest =>
                  obtain ⟨rfl, rfl⟩ := hcut
                  clear p1 p2 b1 b2 gq2 l0
                  go_upto_if 171 with (fail)
                  go_cut [11] from 172 to 172 (fun v11 wx => ∃ j2 : Nat, v11 = .int .i64 (j2 : Int) ∧ Aside0 (tailF true ex (t.data.toList.drop i) = tailH ex dn (t.data.toList.drop j2)) ∧ Aside0 (j2 ≤ t.size) ∧ wx = wc)
                  case first =>
                    cases sg
                    case false =>
                      have HG : Aside0 (tailF true ex (t.data.toList.drop i) = tailH ex dn (t.data.toList.drop j)) := ⟨by rw [HTG.out, HDR.out, tailG, ← HDN.out, if_neg (of_decide_eq_false HSG.out.symm)]⟩
                      go_wp2
                      go_meet
                      case rel => exact ⟨j, rfl, HG, ⟨hjt⟩, rfl⟩
                    case true =>
                      have HG : Aside0 (tailF true ex (t.data.toList.drop i) = tailH ex dn (t.data.toList.drop (j + 1))) := ⟨by rw [HTG.out, HDR.out, tailG, ← HDN.out, if_pos (of_decide_eq_true HSG.out.symm)]⟩
                      have k1 : IntKind.i64.wrap ((j : Int) + 1) = ((j + 1 : Nat) : Int) := by rw [Go.IntWalk.i64_in _ (by omega)]; omega
                      have HJ1 := Aside0.mk (show j + 1 ≤ t.size by omega)
                      go_wp2
                      go_meet
                      case rel => exact ⟨j + 1, by go_num, HG, HJ1, rfl⟩
                  case rest =>
                    clear hjj
                    obtain ⟨j2, rfl, HG, HJ2, rfl⟩ := hcut
                    have hj2 := HJ2.out
                    by_cases hjj : j2 < t.size
                    case neg =>
                      have p3 : decide ((t.size : Int) ≤ (j2 : Int)) = true := decide_eq_true (by omega)
                      have p4 : decide (t.size ≤ j2) = true := decide_eq_true (by omega)
                      have HT : Aside0 (tailF true ex (t.data.toList.drop i) = none) := ⟨by rw [HG.out, drop_end (t := t) (i := j2) (by omega)]; rfl⟩
                      clear hjj
                      go_wp2
                      go_ret2
                      refine ⟨fun _ => ⟨rfl, HBL.out⟩, fun c h => ?_⟩
                      rw [HRES.out, readC_none HT.out] at h
                      cases h
                    case pos =>
                      have p3 : decide ((t.size : Int) ≤ (j2 : Int)) = false := decide_eq_false (by omega)
                      have p4 : decide (t.size ≤ j2) = false := decide_eq_false (by omega)
                      have b1 : (0 : Int) ≤ (j2 : Int) := by omega
                      have b2 : (j2 : Int) < (t.size : Int) := by omega
                      obtain ⟨x, hx0, gx⟩ := byte_at (s := t) (i := j2) hjj
                      have HXD := Aside0.mk (drop_at hx0)
                      have l0 := x.toNat_lt
                      clear hx0
                      by_cases hdg : 48 ≤ x.toNat ∧ x.toNat ≤ 57
                      case neg =>
                        have HT : Aside0 (tailF true ex (t.data.toList.drop i) = none) := ⟨by rw [HG.out, HXD.out, tailH, if_neg hdg]⟩
                        by_cases h48 : x.toNat < 48
                        case pos =>
                          have g1 : decide ((x.toNat : Int) < 48) = true := decide_eq_true (by omega)
                          clear hdg h48
                          go_wp2
                          go_ret2
                          refine ⟨fun _ => ⟨rfl, HBL.out⟩, fun c h => ?_⟩
                          rw [HRES.out, readC_none HT.out] at h
                          cases h
                        case neg =>
                          have g1 : decide ((x.toNat : Int) < 48) = false := decide_eq_false (by omega)
                          have g2 : decide ((57 : Int) < (x.toNat : Int)) = true := decide_eq_true (by omega)
                          clear hdg h48
                          go_wp2
                          go_ret2
                          refine ⟨fun _ => ⟨rfl, HBL.out⟩, fun c h => ?_⟩
                          rw [HRES.out, readC_none HT.out] at h
                          cases h
                      case pos =>
                        have g1 : decide ((x.toNat : Int) < 48) = false := decide_eq_false (by omega)
                        have g2 : decide ((57 : Int) < (x.toNat : Int)) = false := decide_eq_false (by omega)
                        obtain ⟨fe, hfe⟩ : ∃ fe, fe = exL 0 (t.data.toList.drop j2) := ⟨_, rfl⟩
                        have HFE := Aside0.mk hfe
                        have HTH : Aside0 (tailF true ex (t.data.toList.drop i) = some (ex + (if dn then -fe.1 else fe.1), fe.2)) := ⟨by rw [HG.out, HXD.out, tailH, if_pos hdg, ← HXD.out, ← hfe]⟩
                        clear hdg hfe
                        go_upto_block 4 with (fail)
                        clear g1 g2 p3 p4 gx l0 b1 b2
                        clear hjj
                        go_cut [11, 15] from 190 to 190 (fun v11 v15 wx => ∃ (j3 : Nat) (e : Int), v11 = .int .i64 (j3 : Int) ∧ v15 = .int .i64 e ∧ Aside0 (fe = (e, t.data.toList.drop j3)) ∧ Aside0 (j3 ≤ t.size) ∧ Aside0 (0 ≤ e ∧ e ≤ 100009) ∧ wx = wc)
                        case first =>
                          go_wp2_with (fail)
                          go_loopg [11, 15] (t.size - j2) (fun kq v11 v15 w' => ∃ (j3 : Nat) (e : Int), v11 = .int .i64 (j3 : Int) ∧ v15 = .int .i64 e ∧ Aside0 (j3 + kq = t.size) ∧ Aside0 (exL e (t.data.toList.drop j3) = fe) ∧ Aside0 (0 ≤ e ∧ e ≤ 100009) ∧ w' = wc)
                          case atStart => exact ⟨j2, 0, rfl, rfl, ⟨by omega⟩, ⟨HFE.out.symm⟩, ⟨by omega, by omega⟩, rfl⟩
                          case round =>
                            obtain ⟨j3, e, rfl, rfl, HI3, HE3, HEB, rfl⟩ := hrel
                            have hj3 : j3 ≤ t.size := by have := HI3.out; omega
                            have HJ3 := Aside0.mk hj3
                            have he1 := HEB.out.1
                            have he2 := HEB.out.2
                            by_cases hjj : j3 < t.size
                            case neg =>
                              have p1 : decide ((j3 : Int) < (t.size : Int)) = false := decide_eq_false (by omega)
                              have p2 : decide (j3 < t.size) = false := decide_eq_false hjj
                              have HFX : Aside0 (fe = (e, t.data.toList.drop j3)) := ⟨by rw [← HE3.out, drop_end (t := t) (i := j3) (by omega)]; rfl⟩
                              clear hjj
                              go_wp2
                              go_meet
                              case rel => exact ⟨j3, e, rfl, rfl, HFX, HJ3, HEB, rfl⟩
                            case pos =>
                              have p1 : decide ((j3 : Int) < (t.size : Int)) = true := decide_eq_true (by omega)
                              have p2 : decide (j3 < t.size) = true := decide_eq_true hjj
                              have b1 : (0 : Int) ≤ (j3 : Int) := by omega
                              have b2 : (j3 : Int) < (t.size : Int) := by omega
                              have b3 : IntKind.i64.wrap ((j3 : Int) + 1) = ((j3 + 1 : Nat) : Int) := by rw [Go.IntWalk.i64_in _ (by omega)]; omega
                              obtain ⟨x, hx0, gx⟩ := byte_at (s := t) (i := j3) hjj
                              have HXD := Aside0.mk (drop_at hx0)
                              have l0 := x.toNat_lt
                              have HE4 : Aside0 (exL e (x :: t.data.toList.drop (j3 + 1)) = fe) := ⟨by rw [← HXD.out]; exact HE3.out⟩
                              clear hx0
                              by_cases hdg : 48 ≤ x.toNat ∧ x.toNat ≤ 57
                              case pos =>
                                have g1 : decide ((48 : Int) ≤ (x.toNat : Int)) = true := decide_eq_true (by omega)
                                have g2 : decide ((x.toNat : Int) ≤ 57) = true := decide_eq_true (by omega)
                                have g3 : ((x.toNat : Int) == 95) = false := beq_eq_false_iff_ne.mpr (by omega)
                                have g4 : ((x.toNat : Int) != 95) = true := by rw [bne, g3]; rfl
                                have HE5 : Aside0 (exL (if e < 10000 then e * 10 + ((x.toNat : Int) - 48) else e) (t.data.toList.drop (j3 + 1)) = fe) := ⟨by rw [← HE4.out, exL_dig hdg]⟩
                                obtain ⟨xd, hxd⟩ : ∃ xd : Nat, xd = x.toNat - 48 := ⟨_, rfl⟩
                                have k1 : IntKind.u8.wrap ((x.toNat : Int) - 48) = (xd : Int) := by
                                  show ((x.toNat : Int) - 48) % 256 = _
                                  omega
                                have hxi : (x.toNat : Int) - 48 = (xd : Int) := by omega
                                have hx9 : xd ≤ 9 := by omega
                                rw [hxi] at HE5
                                clear hdg hxd hxi
                                by_cases hbig : e < 10000
                                case pos =>
                                  have g5 : decide (e < 10000) = true := decide_eq_true hbig
                                  rw [if_pos hbig] at HE5
                                  obtain ⟨e2, he⟩ : ∃ e2, e2 = e * 10 := ⟨_, rfl⟩
                                  have k2 : IntKind.i64.wrap (e * 10) = e2 := by rw [he]; exact Go.IntWalk.i64_in _ (by omega)
                                  have k3 : IntKind.i64.wrap (e2 + (xd : Int)) = e2 + (xd : Int) := Go.IntWalk.i64_in _ (by omega)
                                  rw [← he] at HE5
                                  have HB5 : Aside0 (0 ≤ e2 + (xd : Int) ∧ e2 + (xd : Int) ≤ 100009) := ⟨by omega, by omega⟩
                                  clear he
                                  go_wp2
                                  go_roundg (gk - 1)
                                  case measure => have := HI3.out; omega
                                  case rel => exact ⟨j3 + 1, e2 + (xd : Int), by go_num, by go_num, ⟨by have := HI3.out; omega⟩, HE5, HB5, rfl⟩
                                case neg =>
                                  have g5 : decide (e < 10000) = false := decide_eq_false hbig
                                  rw [if_neg hbig] at HE5
                                  clear hbig
                                  go_wp2
                                  go_roundg (gk - 1)
                                  case measure => have := HI3.out; omega
                                  case rel => exact ⟨j3 + 1, e, by go_num, rfl, ⟨by have := HI3.out; omega⟩, HE5, HEB, rfl⟩
                              case neg =>
                                by_cases h95 : x.toNat = 95
                                case pos =>
                                  have g1 : decide ((48 : Int) ≤ (x.toNat : Int)) = true := decide_eq_true (by omega)
                                  have g2 : decide ((x.toNat : Int) ≤ 57) = false := decide_eq_false (by omega)
                                  have g3 : ((x.toNat : Int) == 95) = true := beq_iff_eq.mpr (by omega)
                                  have g4 : ((x.toNat : Int) != 95) = false := by rw [bne, g3]; rfl
                                  have HE5 : Aside0 (exL e (t.data.toList.drop (j3 + 1)) = fe) := ⟨by rw [← HE4.out, exL_us h95]⟩
                                  clear hdg h95
                                  go_wp2
                                  go_roundg (gk - 1)
                                  case measure => have := HI3.out; omega
                                  case rel => exact ⟨j3 + 1, e, by go_num, rfl, ⟨by have := HI3.out; omega⟩, HE5, HEB, rfl⟩
                                case neg =>
                                  have g3 : ((x.toNat : Int) == 95) = false := beq_eq_false_iff_ne.mpr (by omega)
                                  have HFX : Aside0 (fe = (e, t.data.toList.drop j3)) := ⟨by rw [HXD.out, ← exL_stop hdg h95, HE4.out]⟩
                                  by_cases h48 : 48 ≤ x.toNat
                                  case pos =>
                                    have g1 : decide ((48 : Int) ≤ (x.toNat : Int)) = true := decide_eq_true (by omega)
                                    have g2 : decide ((x.toNat : Int) ≤ 57) = false := decide_eq_false (by omega)
                                    clear hdg h95 h48
                                    go_wp2
                                    go_meet
                                    case rel => exact ⟨j3, e, rfl, rfl, HFX, HJ3, HEB, rfl⟩
                                  case neg =>
                                    have g1 : decide ((48 : Int) ≤ (x.toNat : Int)) = false := decide_eq_false (by omega)
                                    clear hdg h95 h48
                                    go_wp2
                                    go_meet
                                    case rel => exact ⟨j3, e, rfl, rfl, HFX, HJ3, HEB, rfl⟩
                        case rest =>
                          obtain ⟨j3, e, rfl, rfl, HFX, HJ3, HEB, rfl⟩ := hcut
                          have hj3 := HJ3.out
                          have he1 := HEB.out.1
                          have he2 := HEB.out.2
                          cases dn
                          case false =>
                            obtain ⟨x2, hx2⟩ : ∃ x2, x2 = ex + e := ⟨_, rfl⟩
                            have k1 : IntKind.i64.wrap (ex + e) = x2 := by rw [hx2]; exact Go.IntWalk.i64_in _ (by omega)
                            have hb2 : -200000 ≤ x2 ∧ x2 ≤ 200000 := by omega
                            have HTF : Aside0 (tailF true ex (t.data.toList.drop i) = some (x2, t.data.toList.drop j3)) := ⟨by rw [HTH.out, HFX.out, hx2]; rfl⟩
                            have hb3 := hb2.1
                            have hb4 := hb2.2
                            clear hx2 hb2
                            go_upto_region 54 with (fail)
                            clear k1
                            by_cases hz3 : j3 < t.size
                            case pos =>
                              have p1 : decide ((j3 : Int) < (t.size : Int)) = true := decide_eq_true (by omega)
                              have p2 : decide (j3 < t.size) = true := decide_eq_true hz3
                              obtain ⟨q9, hq9, gq9⟩ := byte_at (s := t) (i := j3) hz3
                              have HT9 : Aside0 (tailF true ex (t.data.toList.drop i) = some (x2, q9 :: t.data.toList.drop (j3 + 1))) := ⟨by rw [HTF.out, drop_at hq9]⟩
                              clear hq9 gq9
                              clear hz3
                              go_wp2
                              go_ret2
                              refine ⟨fun _ => ⟨rfl, HBL.out⟩, fun c h => ?_⟩
                              rw [HRES.out, readC_more HT9.out] at h
                              cases h
                            case neg =>
                              have p1 : decide ((j3 : Int) < (t.size : Int)) = false := decide_eq_false (by omega)
                              have p2 : decide (j3 < t.size) = false := decide_eq_false hz3
                              have HT9 : Aside0 (tailF true ex (t.data.toList.drop i) = some (x2, [])) := ⟨by rw [HTF.out, drop_end (t := t) (i := j3) (by omega)]⟩
                              clear hz3
                              have m64 : m < 18446744073709551616 := HINV.out.m
                              have HM64 := Aside0.mk m64
                              by_cases hm0 : m = 0 ∨ x2 < -1300
                              case pos =>
                                have HM0 := Aside0.mk hm0
                                obtain ⟨bm, hbm⟩ : ∃ b, b = ((m : Int) == 0) := ⟨_, rfl⟩
                                have hx2 : bm = false → decide (x2 < -1300) = true := fun h => decide_eq_true (hm0.resolve_left (fun h0 => by rw [h0] at hbm; rw [hbm] at h; exact absurd h (by decide)))
                                cases bm
                                case false =>
                                  have hx3 := hx2 rfl
                                  have hbm2 := hbm.symm
                                  clear hbm hm0 hx2
                                  go_upto_region 60 with (first | (go_at_call 39; go_loud (refine (newDecimal_ wc m HM64.out).mono ?_; rintro e w5 ⟨D5, rfl, hd5⟩; have E5 := Aside0.mk (show DecN w w.heap.size w5 D5 (newC m) from (by obtain ⟨v5, h5⟩ := hd5; exact ⟨v5, h5.lower HBL.out⟩)); clear hd5)))
                                  have NEW := Aside0.mk (show DecN w w.heap.size (w5.alloc (.cells #[.slice none 0 0, .int .i64 0] 75 (0, 0))) w5.heap.size ⟨[], 0⟩ from ⟨.slice none 0 0, blk_new w5 _, Kd.R_nil _ _ _ _ _, (by obtain ⟨v5, h5⟩ := E5.out; exact ⟨h5.2.2.1.1.alloc (h5.2.2.2.2) _, fun k hk _ => (h5.2.2.1.1.alloc (h5.2.2.2.2) _).block k hk⟩), (by obtain ⟨v5, h5⟩ := E5.out; exact h5.2.2.2.2), (by obtain ⟨v5, h5⟩ := E5.out; have := h5.2.2.2.2; simp; omega)⟩)
                                  go_wp2
                                  have HEX : Aside0 (hexC m (x2) = ⟨[], 0⟩) := ⟨by rw [hexC, if_pos HM0.out]⟩
                                  go_ret2
                                  refine ⟨fun h => ?_, fun c h => ?_⟩
                                  · rw [HRES.out, readC_some rfl HT9.out] at h
                                    cases h
                                  · rw [HRES.out, readC_some rfl HT9.out] at h
                                    simp only [Option.some.injEq, if_true] at h
                                    rw [HEX.out] at h
                                    subst h
                                    exact ⟨_, rfl, NEW.out⟩
                                case true =>
                                  have hbm2 := hbm.symm
                                  clear hbm hm0 hx2
                                  go_upto_region 60 with (first | (go_at_call 39; go_loud (refine (newDecimal_ wc m HM64.out).mono ?_; rintro e w5 ⟨D5, rfl, hd5⟩; have E5 := Aside0.mk (show DecN w w.heap.size w5 D5 (newC m) from (by obtain ⟨v5, h5⟩ := hd5; exact ⟨v5, h5.lower HBL.out⟩)); clear hd5)))
                                  have NEW := Aside0.mk (show DecN w w.heap.size (w5.alloc (.cells #[.slice none 0 0, .int .i64 0] 75 (0, 0))) w5.heap.size ⟨[], 0⟩ from ⟨.slice none 0 0, blk_new w5 _, Kd.R_nil _ _ _ _ _, (by obtain ⟨v5, h5⟩ := E5.out; exact ⟨h5.2.2.1.1.alloc (h5.2.2.2.2) _, fun k hk _ => (h5.2.2.1.1.alloc (h5.2.2.2.2) _).block k hk⟩), (by obtain ⟨v5, h5⟩ := E5.out; exact h5.2.2.2.2), (by obtain ⟨v5, h5⟩ := E5.out; have := h5.2.2.2.2; simp; omega)⟩)
                                  go_wp2
                                  have HEX : Aside0 (hexC m (x2) = ⟨[], 0⟩) := ⟨by rw [hexC, if_pos HM0.out]⟩
                                  go_ret2
                                  refine ⟨fun h => ?_, fun c h => ?_⟩
                                  · rw [HRES.out, readC_some rfl HT9.out] at h
                                    cases h
                                  · rw [HRES.out, readC_some rfl HT9.out] at h
                                    simp only [Option.some.injEq, if_true] at h
                                    rw [HEX.out] at h
                                    subst h
                                    exact ⟨_, rfl, NEW.out⟩
                              case neg =>
                                have HM0 := Aside0.mk hm0
                                have hm1 : m ≠ 0 := fun h => hm0 (.inl h)
                                have gm : ((m : Int) == 0) = false := beq_eq_false_iff_ne.mpr (by omega)
                                have gx : decide (x2 < -1300) = false := decide_eq_false (fun h => hm0 (.inr h))
                                obtain ⟨b9, hb9, n9, l9⟩ := hex_shift hm1 m64 (ex := x2) (by omega)
                                have HNC := Aside0.mk (newC_norm hm1 m64)
                                have HEX : Aside0 (hexC m (x2) = b9) := ⟨by rw [hexC, if_neg hm0, hb9]; rfl⟩
                                have HB9 := Aside0.mk hb9
                                clear hb9 hm0 hm1 n9 l9
                                by_cases hbig : 1100 < x2
                                case pos =>
                                  have gb : decide (1100 < x2) = true := decide_eq_true hbig
                                  have HB8 : Aside0 (shiftF 100000000 2000 (newC m) (1100) = some b9) := ⟨by have := HB9.out; rw [if_pos hbig] at this; exact this⟩
                                  have HKK := Aside0.mk (show -1000000000 ≤ (1100 : Int) ∧ (1100 : Int) ≤ 1000000000 by omega)
                                  clear hbig
                                  go_wp2_with (first | (go_at_call 39; go_loud (refine (newDecimal_ wc m HM64.out).mono ?_; rintro e w5 ⟨D5, rfl, hd5⟩; have E5 := Aside0.mk (show DecN w w.heap.size w5 D5 (newC m) from (by obtain ⟨v5, h5⟩ := hd5; exact ⟨v5, h5.lower HBL.out⟩)); clear hd5)) | (go_at_call 40; go_loud (refine (shift_ w _ w.heap.size D5 (newC m) b9 (1100) 100000000 2000 E5.out HNC.out.1 HB8.out HKK.out (by have := HNC.out.2.1; omega) (by have := HNC.out.2.2; omega) (by omega) (by have := HNC.out.2.1; omega) (by omega)).mono ?_; rintro e w6 ⟨rfl, hd6⟩; have D6 := Aside0.mk hd6; clear hd6)))
                                  go_ret2
                                  refine ⟨fun h => ?_, fun c h => ?_⟩
                                  · rw [HRES.out, readC_some rfl HT9.out] at h
                                    cases h
                                  · rw [HRES.out, readC_some rfl HT9.out] at h
                                    simp only [Option.some.injEq, if_true] at h
                                    rw [HEX.out] at h
                                    subst h
                                    exact ⟨_, rfl, D6.out⟩
                                case neg =>
                                  have gb : decide (1100 < x2) = false := decide_eq_false hbig
                                  have HB8 : Aside0 (shiftF 100000000 2000 (newC m) (x2) = some b9) := ⟨by have := HB9.out; rw [if_neg hbig] at this; exact this⟩
                                  have HKK := Aside0.mk (show -1000000000 ≤ (x2 : Int) ∧ (x2 : Int) ≤ 1000000000 by omega)
                                  clear hbig
                                  go_wp2_with (first | (go_at_call 39; go_loud (refine (newDecimal_ wc m HM64.out).mono ?_; rintro e w5 ⟨D5, rfl, hd5⟩; have E5 := Aside0.mk (show DecN w w.heap.size w5 D5 (newC m) from (by obtain ⟨v5, h5⟩ := hd5; exact ⟨v5, h5.lower HBL.out⟩)); clear hd5)) | (go_at_call 40; go_loud (refine (shift_ w _ w.heap.size D5 (newC m) b9 (x2) 100000000 2000 E5.out HNC.out.1 HB8.out HKK.out (by have := HNC.out.2.1; omega) (by have := HNC.out.2.2; omega) (by omega) (by have := HNC.out.2.1; omega) (by omega)).mono ?_; rintro e w6 ⟨rfl, hd6⟩; have D6 := Aside0.mk hd6; clear hd6)))
                                  go_ret2
                                  refine ⟨fun h => ?_, fun c h => ?_⟩
                                  · rw [HRES.out, readC_some rfl HT9.out] at h
                                    cases h
                                  · rw [HRES.out, readC_some rfl HT9.out] at h
                                    simp only [Option.some.injEq, if_true] at h
                                    rw [HEX.out] at h
                                    subst h
                                    exact ⟨_, rfl, D6.out⟩
                          case true =>
                            obtain ⟨x2, hx2⟩ : ∃ x2, x2 = ex + -e := ⟨_, rfl⟩
                            have k1 : IntKind.i64.wrap (ex + -e) = x2 := by rw [hx2]; exact Go.IntWalk.i64_in _ (by omega)
                            have k2 : IntKind.i64.wrap (-e) = -e := Go.IntWalk.i64_in _ (by omega)
                            have hb2 : -200000 ≤ x2 ∧ x2 ≤ 200000 := by omega
                            have HTF : Aside0 (tailF true ex (t.data.toList.drop i) = some (x2, t.data.toList.drop j3)) := ⟨by rw [HTH.out, HFX.out, hx2]; rfl⟩
                            have hb3 := hb2.1
                            have hb4 := hb2.2
                            clear hx2 hb2
                            go_upto_region 54 with (fail)
                            clear k1
                            by_cases hz3 : j3 < t.size
                            case pos =>
                              have p1 : decide ((j3 : Int) < (t.size : Int)) = true := decide_eq_true (by omega)
                              have p2 : decide (j3 < t.size) = true := decide_eq_true hz3
                              obtain ⟨q9, hq9, gq9⟩ := byte_at (s := t) (i := j3) hz3
                              have HT9 : Aside0 (tailF true ex (t.data.toList.drop i) = some (x2, q9 :: t.data.toList.drop (j3 + 1))) := ⟨by rw [HTF.out, drop_at hq9]⟩
                              clear hq9 gq9
                              clear hz3
                              go_wp2
                              go_ret2
                              refine ⟨fun _ => ⟨rfl, HBL.out⟩, fun c h => ?_⟩
                              rw [HRES.out, readC_more HT9.out] at h
                              cases h
                            case neg =>
                              have p1 : decide ((j3 : Int) < (t.size : Int)) = false := decide_eq_false (by omega)
                              have p2 : decide (j3 < t.size) = false := decide_eq_false hz3
                              have HT9 : Aside0 (tailF true ex (t.data.toList.drop i) = some (x2, [])) := ⟨by rw [HTF.out, drop_end (t := t) (i := j3) (by omega)]⟩
                              clear hz3
                              have m64 : m < 18446744073709551616 := HINV.out.m
                              have HM64 := Aside0.mk m64
                              by_cases hm0 : m = 0 ∨ x2 < -1300
                              case pos =>
                                have HM0 := Aside0.mk hm0
                                obtain ⟨bm, hbm⟩ : ∃ b, b = ((m : Int) == 0) := ⟨_, rfl⟩
                                have hx2 : bm = false → decide (x2 < -1300) = true := fun h => decide_eq_true (hm0.resolve_left (fun h0 => by rw [h0] at hbm; rw [hbm] at h; exact absurd h (by decide)))
                                cases bm
                                case false =>
                                  have hx3 := hx2 rfl
                                  have hbm2 := hbm.symm
                                  clear hbm hm0 hx2
                                  go_upto_region 60 with (first | (go_at_call 39; go_loud (refine (newDecimal_ wc m HM64.out).mono ?_; rintro e w5 ⟨D5, rfl, hd5⟩; have E5 := Aside0.mk (show DecN w w.heap.size w5 D5 (newC m) from (by obtain ⟨v5, h5⟩ := hd5; exact ⟨v5, h5.lower HBL.out⟩)); clear hd5)))
                                  have NEW := Aside0.mk (show DecN w w.heap.size (w5.alloc (.cells #[.slice none 0 0, .int .i64 0] 75 (0, 0))) w5.heap.size ⟨[], 0⟩ from ⟨.slice none 0 0, blk_new w5 _, Kd.R_nil _ _ _ _ _, (by obtain ⟨v5, h5⟩ := E5.out; exact ⟨h5.2.2.1.1.alloc (h5.2.2.2.2) _, fun k hk _ => (h5.2.2.1.1.alloc (h5.2.2.2.2) _).block k hk⟩), (by obtain ⟨v5, h5⟩ := E5.out; exact h5.2.2.2.2), (by obtain ⟨v5, h5⟩ := E5.out; have := h5.2.2.2.2; simp; omega)⟩)
                                  go_wp2
                                  have HEX : Aside0 (hexC m (x2) = ⟨[], 0⟩) := ⟨by rw [hexC, if_pos HM0.out]⟩
                                  go_ret2
                                  refine ⟨fun h => ?_, fun c h => ?_⟩
                                  · rw [HRES.out, readC_some rfl HT9.out] at h
                                    cases h
                                  · rw [HRES.out, readC_some rfl HT9.out] at h
                                    simp only [Option.some.injEq, if_true] at h
                                    rw [HEX.out] at h
                                    subst h
                                    exact ⟨_, rfl, NEW.out⟩
                                case true =>
                                  have hbm2 := hbm.symm
                                  clear hbm hm0 hx2
                                  go_upto_region 60 with (first | (go_at_call 39; go_loud (refine (newDecimal_ wc m HM64.out).mono ?_; rintro e w5 ⟨D5, rfl, hd5⟩; have E5 := Aside0.mk (show DecN w w.heap.size w5 D5 (newC m) from (by obtain ⟨v5, h5⟩ := hd5; exact ⟨v5, h5.lower HBL.out⟩)); clear hd5)))
                                  have NEW := Aside0.mk (show DecN w w.heap.size (w5.alloc (.cells #[.slice none 0 0, .int .i64 0] 75 (0, 0))) w5.heap.size ⟨[], 0⟩ from ⟨.slice none 0 0, blk_new w5 _, Kd.R_nil _ _ _ _ _, (by obtain ⟨v5, h5⟩ := E5.out; exact ⟨h5.2.2.1.1.alloc (h5.2.2.2.2) _, fun k hk _ => (h5.2.2.1.1.alloc (h5.2.2.2.2) _).block k hk⟩), (by obtain ⟨v5, h5⟩ := E5.out; exact h5.2.2.2.2), (by obtain ⟨v5, h5⟩ := E5.out; have := h5.2.2.2.2; simp; omega)⟩)
                                  go_wp2
                                  have HEX : Aside0 (hexC m (x2) = ⟨[], 0⟩) := ⟨by rw [hexC, if_pos HM0.out]⟩
                                  go_ret2
                                  refine ⟨fun h => ?_, fun c h => ?_⟩
                                  · rw [HRES.out, readC_some rfl HT9.out] at h
                                    cases h
                                  · rw [HRES.out, readC_some rfl HT9.out] at h
                                    simp only [Option.some.injEq, if_true] at h
                                    rw [HEX.out] at h
                                    subst h
                                    exact ⟨_, rfl, NEW.out⟩
                              case neg =>
                                have HM0 := Aside0.mk hm0
                                have hm1 : m ≠ 0 := fun h => hm0 (.inl h)
                                have gm : ((m : Int) == 0) = false := beq_eq_false_iff_ne.mpr (by omega)
                                have gx : decide (x2 < -1300) = false := decide_eq_false (fun h => hm0 (.inr h))
                                obtain ⟨b9, hb9, n9, l9⟩ := hex_shift hm1 m64 (ex := x2) (by omega)
                                have HNC := Aside0.mk (newC_norm hm1 m64)
                                have HEX : Aside0 (hexC m (x2) = b9) := ⟨by rw [hexC, if_neg hm0, hb9]; rfl⟩
                                have HB9 := Aside0.mk hb9
                                clear hb9 hm0 hm1 n9 l9
                                by_cases hbig : 1100 < x2
                                case pos =>
                                  have gb : decide (1100 < x2) = true := decide_eq_true hbig
                                  have HB8 : Aside0 (shiftF 100000000 2000 (newC m) (1100) = some b9) := ⟨by have := HB9.out; rw [if_pos hbig] at this; exact this⟩
                                  have HKK := Aside0.mk (show -1000000000 ≤ (1100 : Int) ∧ (1100 : Int) ≤ 1000000000 by omega)
                                  clear hbig
                                  go_wp2_with (first | (go_at_call 39; go_loud (refine (newDecimal_ wc m HM64.out).mono ?_; rintro e w5 ⟨D5, rfl, hd5⟩; have E5 := Aside0.mk (show DecN w w.heap.size w5 D5 (newC m) from (by obtain ⟨v5, h5⟩ := hd5; exact ⟨v5, h5.lower HBL.out⟩)); clear hd5)) | (go_at_call 40; go_loud (refine (shift_ w _ w.heap.size D5 (newC m) b9 (1100) 100000000 2000 E5.out HNC.out.1 HB8.out HKK.out (by have := HNC.out.2.1; omega) (by have := HNC.out.2.2; omega) (by omega) (by have := HNC.out.2.1; omega) (by omega)).mono ?_; rintro e w6 ⟨rfl, hd6⟩; have D6 := Aside0.mk hd6; clear hd6)))
                                  go_ret2
                                  refine ⟨fun h => ?_, fun c h => ?_⟩
                                  · rw [HRES.out, readC_some rfl HT9.out] at h
                                    cases h
                                  · rw [HRES.out, readC_some rfl HT9.out] at h
                                    simp only [Option.some.injEq, if_true] at h
                                    rw [HEX.out] at h
                                    subst h
                                    exact ⟨_, rfl, D6.out⟩
                                case neg =>
                                  have gb : decide (1100 < x2) = false := decide_eq_false hbig
                                  have HB8 : Aside0 (shiftF 100000000 2000 (newC m) (x2) = some b9) := ⟨by have := HB9.out; rw [if_neg hbig] at this; exact this⟩
                                  have HKK := Aside0.mk (show -1000000000 ≤ (x2 : Int) ∧ (x2 : Int) ≤ 1000000000 by omega)
                                  clear hbig
                                  go_wp2_with (first | (go_at_call 39; go_loud (refine (newDecimal_ wc m HM64.out).mono ?_; rintro e w5 ⟨D5, rfl, hd5⟩; have E5 := Aside0.mk (show DecN w w.heap.size w5 D5 (newC m) from (by obtain ⟨v5, h5⟩ := hd5; exact ⟨v5, h5.lower HBL.out⟩)); clear hd5)) | (go_at_call 40; go_loud (refine (shift_ w _ w.heap.size D5 (newC m) b9 (x2) 100000000 2000 E5.out HNC.out.1 HB8.out HKK.out (by have := HNC.out.2.1; omega) (by have := HNC.out.2.2; omega) (by omega) (by have := HNC.out.2.1; omega) (by omega)).mono ?_; rintro e w6 ⟨rfl, hd6⟩; have D6 := Aside0.mk hd6; clear hd6)))
                                  go_ret2
                                  refine ⟨fun h => ?_, fun c h => ?_⟩
                                  · rw [HRES.out, readC_some rfl HT9.out] at h
                                    cases h
                                  · rw [HRES.out, readC_some rfl HT9.out] at h
                                    simp only [Option.some.injEq, if_true] at h
                                    rw [HEX.out] at h
                                    subst h
                                    exact ⟨_, rfl, D6.out⟩
end Go.Proofs.YtnmochachiieaaaDoor.Hand
