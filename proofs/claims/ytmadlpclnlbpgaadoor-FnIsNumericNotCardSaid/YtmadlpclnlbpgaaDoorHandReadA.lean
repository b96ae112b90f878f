/- What lightstrconv.read answers of a text without a hexadecimal prefix that holds a letter that no number has: that it is none. -/
import Derived.Test.YtmadlpclnlbpgaaDoorHandRead
namespace Go.Proofs.YtmadlpclnlbpgaaDoor.Hand
open Go.RowKit Go.Proofs.YtmadlpclnlbpgaaDoorW.PrintWords Go.Proofs.YtmadlpclnlbpgaaDoor.Base
set_option linter.unusedVariables false
set_option linter.unusedSimpArgs false
set_option maxHeartbeats 16000000 in
set_option maxRecDepth 100000 in
theorem read_no0 (s : ByteArray) (w : World) (k : Nat) (c : UInt8) (hk : s.data.toList[k]? = some c) (hb : BadL c) (hs : s.size ≤ 1000000) (hh : hexB s = false) :
    Calls Tryd.prog 36 #[.string s] w fun e w' => e = .returned (.tuple #[.pointer none, .bool false]) ∧ Below w.heap.size w w' := by
  have HK := Aside0.mk hk
  have HB := Aside0.mk hb
  have HHX := Aside0.mk hh
  have hks : k < s.size := (at_byte hk).1
  clear hk hb hh
  have HD := Aside0.mk (show DecAt w w.heap.size (w.alloc (.cells #[.slice none 0 0, .int .i64 0] 89)) w.heap.size (.slice none 0 0) [] 0 from ⟨blk_new w _, DigR.nil _ _ _, (Below.refl _ _).alloc (Nat.le_refl _) _, Nat.le_refl _, by simp⟩)
  go_enter Tryd.func36, Tryd.ntmps36
  go_upto_region 2 with (fail)
  change Code.wp _ _ _ _ (w.alloc (.cells #[.slice none 0 0, .int .i64 0] 89))
  generalize (w.alloc (.cells #[.slice none 0 0, .int .i64 0] 89)) = w1 at HD ⊢
  go_cut [5] from 17 to 17 (fun v5 wc => v5 = .bool (hexB s) ∧ Aside0 (DecAt w w.heap.size wc w.heap.size (.slice none 0 0) [] 0))
  case first =>
    clear HHX
    by_cases h2 : 2 ≤ s.size
    · obtain ⟨q0, hq0, g0⟩ := byte_at (s := s) (i := 0) (by omega)
      obtain ⟨q1, hq1, g1⟩ := byte_at (s := s) (i := 1) (by omega)
      have HT := Aside0.mk (hexB_two hq0 hq1)
      have l0 := q0.toNat_lt
      have l1 := (lowB q1).toNat_lt
      clear hq0 hq1
      by_cases h48 : q0.toNat = 48
      · have e1 : ((q0.toNat : Int) == 48) = true := beq_iff_eq.mpr (by omega)
        have HQ48 := Aside0.mk h48
        clear h48
        by_cases h120 : (lowB q1).toNat = 120
        · have e2 : (((lowB q1).toNat : Int) == 120) = true := beq_iff_eq.mpr (by omega)
          have H120 := Aside0.mk h120
          clear h120
          go_wp2_with (((go_at_call 55; with_reducible refine (lower_any q1 _).mono ?_); rintro e w' ⟨rfl, rfl⟩))
          go_meet
          case rel => exact ⟨by rw [HT.out, decide_eq_true HQ48.out, decide_eq_true H120.out] <;> rfl, HD⟩
        · have e2 : (((lowB q1).toNat : Int) == 120) = false := beq_eq_false_iff_ne.mpr (by omega)
          have H120 := Aside0.mk h120
          clear h120
          go_wp2_with (((go_at_call 55; with_reducible refine (lower_any q1 _).mono ?_); rintro e w' ⟨rfl, rfl⟩))
          go_meet
          case rel => exact ⟨by rw [HT.out, decide_eq_true HQ48.out, decide_eq_false H120.out] <;> rfl, HD⟩
      · have e1 : ((q0.toNat : Int) == 48) = false := beq_eq_false_iff_ne.mpr (by omega)
        have HQ48 := Aside0.mk h48
        clear h48
        go_wp2_with (((go_at_call 55; with_reducible refine (lower_any q1 _).mono ?_); rintro e w' ⟨rfl, rfl⟩))
        go_meet
        case rel => exact ⟨by rw [HT.out, decide_eq_false HQ48.out] <;> rfl, HD⟩
    · have HT := Aside0.mk (hexB_short h2)
      go_wp2
      go_meet
      case rel => exact ⟨by rw [HT.out] <;> rfl, HD⟩
  case rest =>
    clear HD
    obtain ⟨rfl, HD⟩ := hcut
    rw [HHX.out]
    skip
    · skip
      have HKt := HK
      have hkt := hks
      have hst := hs
      go_upto_block 0 with (fail)
      clear HK HHX hks hs
      go_cut [7, 8, 9, 10, 11] from 34 to 34 (fun v7 v8 v9 v10 v11 wx => ∃ i : Nat, v11 = .int .i64 (i : Int) ∧ Aside0 (RdR w w.heap.size w.heap.size k v7 v8 v9 v10 i wx))
      case first =>
        go_wp2_with (fail)
        go_loopg [7, 8, 9, 10, 11] s.size (fun kq v7 v8 v9 v10 v11 w' => ∃ i : Nat, v11 = .int .i64 (i : Int) ∧ Aside0 (i + kq = s.size) ∧ Aside0 (RdR w w.heap.size w.heap.size k v7 v8 v9 v10 i w'))
        case atStart => exact ⟨0, rfl, ⟨by omega⟩, ⟨⟨0, 0, 0, false, false, _, [], rfl, rfl, rfl, rfl, Nat.zero_le _, Nat.le_refl _, HD.out⟩⟩⟩
        case round =>
          clear HD
          obtain ⟨i, rfl, HI, HR⟩ := hrel
          obtain ⟨m, ex, dp, sm, dt, v, xs, rfl, rfl, rfl, rfl, hik, hxl, hdec⟩ := HR.out
          have HDC := Aside0.mk hdec
          have hin : i < s.size := by omega
          have p1 : decide ((i : Int) < (s.size : Int)) = true := decide_eq_true (by omega)
          obtain ⟨q, hq, gq⟩ := byte_at (s := s) (i := i) hin
          have HQ := Aside0.mk hq
          have l0 := q.toNat_lt
          have l1 := (lowB q).toNat_lt
          clear hq hdec
          rcases Nat.lt_or_ge i k with hlt | hge
          · obtain ⟨A, cp, hv⟩ := HDC.out.2.1.form
            obtain ⟨n, hn⟩ : ∃ n, xs.length = n := ⟨_, rfl⟩
            rw [hn] at hv
            subst hv
            have hnl : n ≤ i := by omega
            have HN := Aside0.mk hn
            clear hn hxl
            have c0 := HDC.out.c0
            have c1 := HDC.out.c1
            have f0 := HDC.out.f 0
            have f1 := HDC.out.f 1
            have hDl : w.heap.size < wr.heap.size := blk_lt HDC.out.1
            have HDL := Aside0.mk hDl
            clear hDl
            cases dt
            case false =>
              rcases Nat.eq_zero_or_pos n with rfl | hpos
              · skip
                go_wp2_with (first | ((go_at_call 55; with_reducible refine (lower_any q _).mono ?_); rintro e w' ⟨rfl, rfl⟩) | ((go_at_call 55; with_reducible refine (lower_46 _).mono ?_); rintro e w' ⟨rfl, rfl⟩) | ((go_at_call 55; with_reducible refine (lower_95 _).mono ?_); rintro e w' ⟨rfl, rfl⟩) | ((with_reducible refine gate_builtin (b := .append) (xs := #[.tmp 89, .tmp 91]) rfl ?_); at_builtin; refine Kd.R_append (Kd.int .u8) (w0 := w) w.heap.size rfl (.tmp 89) (.tmp 91) 29 5 (.int .u8 0) 1 rfl Tryd.underlying29 info5 rfl (by decide) (by omega) (.slice A 0 cp) xs ((q.toNat : Int) - 48) [.int .u8 ((q.toNat : Int) - 48)] (fun k => k ≠ w.heap.size) (fun _ => False) rfl rfl ?aP (fun _ hk => hk.elim) ?aF ?aO ?aB ?aS ?aL ?_; (case aP => exact rfl); (case aF => exact (fun k hk e => absurd HDL.out (by omega))); (case aO => exact HDC.out.2.1); (case aB => exact HDC.out.2.2.1); (case aS => exact HDC.out.2.2.2.2); (case aL => (rw [HN.out]; omega)); intro v1 w5 ho hb hg hat; obtain ⟨A1, n1, cp1, rfl, HN1⟩ := DigR.form' (B := w.heap.size) (D := w.heap.size) ho; have HA := Aside0.mk (HDC.out.put hg hb ho); have hbD := blk_grown HDC.out.1 hg HDC.out.2.1.ne; have d0 : w5.cell? ⟨w.heap.size, 0, none⟩ = some (.slice A 0 cp) := (by rw [blk_cell hbD]; rfl); have d1 : w5.cell? ⟨w.heap.size, 1, none⟩ = some (.int .i64 dp) := (by rw [blk_cell hbD]; rfl); have e0 := blk_frozen hbD 0; have e1 := blk_frozen hbD 1; clear hbD ho hb hg hat))
                all_goals first
                  | (go_meet; case rel => exact ⟨i, rfl, HR⟩)
                  | (go_roundg (gk - 1)
                     case measure => have := HI.out; omega
                     case rel =>
                       refine ⟨i + 1, by go_num, ⟨by have := HI.out; omega⟩, ⟨?_⟩⟩
                       first | refine RdR.mk' HDC.out ?_ hlt | refine RdR.mk' (HDC.out.dp1 _) ?_ hlt | refine RdR.mk' HA.out ?_ hlt | refine RdR.mk' (HA.out.dp1 _) ?_ hlt
                       first | (rw [HN.out]; omega) | (simp only [List.length_append, List.length_singleton, HN.out]; omega))
              · skip
                go_wp2_with (first | ((go_at_call 55; with_reducible refine (lower_any q _).mono ?_); rintro e w' ⟨rfl, rfl⟩) | ((go_at_call 55; with_reducible refine (lower_46 _).mono ?_); rintro e w' ⟨rfl, rfl⟩) | ((go_at_call 55; with_reducible refine (lower_95 _).mono ?_); rintro e w' ⟨rfl, rfl⟩) | ((with_reducible refine gate_builtin (b := .append) (xs := #[.tmp 89, .tmp 91]) rfl ?_); at_builtin; refine Kd.R_append (Kd.int .u8) (w0 := w) w.heap.size rfl (.tmp 89) (.tmp 91) 29 5 (.int .u8 0) 1 rfl Tryd.underlying29 info5 rfl (by decide) (by omega) (.slice A n cp) xs ((q.toNat : Int) - 48) [.int .u8 ((q.toNat : Int) - 48)] (fun k => k ≠ w.heap.size) (fun _ => False) rfl rfl ?aP (fun _ hk => hk.elim) ?aF ?aO ?aB ?aS ?aL ?_; (case aP => exact rfl); (case aF => exact (fun k hk e => absurd HDL.out (by omega))); (case aO => exact HDC.out.2.1); (case aB => exact HDC.out.2.2.1); (case aS => exact HDC.out.2.2.2.2); (case aL => (rw [HN.out]; omega)); intro v1 w5 ho hb hg hat; obtain ⟨A1, n1, cp1, rfl, HN1⟩ := DigR.form' (B := w.heap.size) (D := w.heap.size) ho; have HA := Aside0.mk (HDC.out.put hg hb ho); have hbD := blk_grown HDC.out.1 hg HDC.out.2.1.ne; have d0 : w5.cell? ⟨w.heap.size, 0, none⟩ = some (.slice A n cp) := (by rw [blk_cell hbD]; rfl); have d1 : w5.cell? ⟨w.heap.size, 1, none⟩ = some (.int .i64 dp) := (by rw [blk_cell hbD]; rfl); have e0 := blk_frozen hbD 0; have e1 := blk_frozen hbD 1; clear hbD ho hb hg hat))
                all_goals first
                  | (go_meet; case rel => exact ⟨i, rfl, HR⟩)
                  | (go_roundg (gk - 1)
                     case measure => have := HI.out; omega
                     case rel =>
                       refine ⟨i + 1, by go_num, ⟨by have := HI.out; omega⟩, ⟨?_⟩⟩
                       first | refine RdR.mk' HDC.out ?_ hlt | refine RdR.mk' (HDC.out.dp1 _) ?_ hlt | refine RdR.mk' HA.out ?_ hlt | refine RdR.mk' (HA.out.dp1 _) ?_ hlt
                       first | (rw [HN.out]; omega) | (simp only [List.length_append, List.length_singleton, HN.out]; omega))
            case true =>
              rcases Nat.eq_zero_or_pos n with rfl | hpos
              · skip
                go_wp2_with (first | ((go_at_call 55; with_reducible refine (lower_any q _).mono ?_); rintro e w' ⟨rfl, rfl⟩) | ((go_at_call 55; with_reducible refine (lower_46 _).mono ?_); rintro e w' ⟨rfl, rfl⟩) | ((go_at_call 55; with_reducible refine (lower_95 _).mono ?_); rintro e w' ⟨rfl, rfl⟩) | ((with_reducible refine gate_builtin (b := .append) (xs := #[.tmp 89, .tmp 91]) rfl ?_); at_builtin; refine Kd.R_append (Kd.int .u8) (w0 := w) w.heap.size rfl (.tmp 89) (.tmp 91) 29 5 (.int .u8 0) 1 rfl Tryd.underlying29 info5 rfl (by decide) (by omega) (.slice A 0 cp) xs ((q.toNat : Int) - 48) [.int .u8 ((q.toNat : Int) - 48)] (fun k => k ≠ w.heap.size) (fun _ => False) rfl rfl ?aP (fun _ hk => hk.elim) ?aF ?aO ?aB ?aS ?aL ?_; (case aP => exact rfl); (case aF => exact (fun k hk e => absurd HDL.out (by omega))); (case aO => exact HDC.out.2.1); (case aB => exact HDC.out.2.2.1); (case aS => exact HDC.out.2.2.2.2); (case aL => (rw [HN.out]; omega)); intro v1 w5 ho hb hg hat; obtain ⟨A1, n1, cp1, rfl, HN1⟩ := DigR.form' (B := w.heap.size) (D := w.heap.size) ho; have HA := Aside0.mk (HDC.out.put hg hb ho); have hbD := blk_grown HDC.out.1 hg HDC.out.2.1.ne; have d0 : w5.cell? ⟨w.heap.size, 0, none⟩ = some (.slice A 0 cp) := (by rw [blk_cell hbD]; rfl); have d1 : w5.cell? ⟨w.heap.size, 1, none⟩ = some (.int .i64 dp) := (by rw [blk_cell hbD]; rfl); have e0 := blk_frozen hbD 0; have e1 := blk_frozen hbD 1; clear hbD ho hb hg hat))
                all_goals first
                  | (go_meet; case rel => exact ⟨i, rfl, HR⟩)
                  | (go_roundg (gk - 1)
                     case measure => have := HI.out; omega
                     case rel =>
                       refine ⟨i + 1, by go_num, ⟨by have := HI.out; omega⟩, ⟨?_⟩⟩
                       first | refine RdR.mk' HDC.out ?_ hlt | refine RdR.mk' (HDC.out.dp1 _) ?_ hlt | refine RdR.mk' HA.out ?_ hlt | refine RdR.mk' (HA.out.dp1 _) ?_ hlt
                       first | (rw [HN.out]; omega) | (simp only [List.length_append, List.length_singleton, HN.out]; omega))
              · skip
                go_wp2_with (first | ((go_at_call 55; with_reducible refine (lower_any q _).mono ?_); rintro e w' ⟨rfl, rfl⟩) | ((go_at_call 55; with_reducible refine (lower_46 _).mono ?_); rintro e w' ⟨rfl, rfl⟩) | ((go_at_call 55; with_reducible refine (lower_95 _).mono ?_); rintro e w' ⟨rfl, rfl⟩) | ((with_reducible refine gate_builtin (b := .append) (xs := #[.tmp 89, .tmp 91]) rfl ?_); at_builtin; refine Kd.R_append (Kd.int .u8) (w0 := w) w.heap.size rfl (.tmp 89) (.tmp 91) 29 5 (.int .u8 0) 1 rfl Tryd.underlying29 info5 rfl (by decide) (by omega) (.slice A n cp) xs ((q.toNat : Int) - 48) [.int .u8 ((q.toNat : Int) - 48)] (fun k => k ≠ w.heap.size) (fun _ => False) rfl rfl ?aP (fun _ hk => hk.elim) ?aF ?aO ?aB ?aS ?aL ?_; (case aP => exact rfl); (case aF => exact (fun k hk e => absurd HDL.out (by omega))); (case aO => exact HDC.out.2.1); (case aB => exact HDC.out.2.2.1); (case aS => exact HDC.out.2.2.2.2); (case aL => (rw [HN.out]; omega)); intro v1 w5 ho hb hg hat; obtain ⟨A1, n1, cp1, rfl, HN1⟩ := DigR.form' (B := w.heap.size) (D := w.heap.size) ho; have HA := Aside0.mk (HDC.out.put hg hb ho); have hbD := blk_grown HDC.out.1 hg HDC.out.2.1.ne; have d0 : w5.cell? ⟨w.heap.size, 0, none⟩ = some (.slice A n cp) := (by rw [blk_cell hbD]; rfl); have d1 : w5.cell? ⟨w.heap.size, 1, none⟩ = some (.int .i64 dp) := (by rw [blk_cell hbD]; rfl); have e0 := blk_frozen hbD 0; have e1 := blk_frozen hbD 1; clear hbD ho hb hg hat))
                all_goals first
                  | (go_meet; case rel => exact ⟨i, rfl, HR⟩)
                  | (go_roundg (gk - 1)
                     case measure => have := HI.out; omega
                     case rel =>
                       refine ⟨i + 1, by go_num, ⟨by have := HI.out; omega⟩, ⟨?_⟩⟩
                       first | refine RdR.mk' HDC.out ?_ hlt | refine RdR.mk' (HDC.out.dp1 _) ?_ hlt | refine RdR.mk' HA.out ?_ hlt | refine RdR.mk' (HA.out.dp1 _) ?_ hlt
                       first | (rw [HN.out]; omega) | (simp only [List.length_append, List.length_singleton, HN.out]; omega))
          · have hqc : q = c := by
              have : i = k := by omega
              have h2 := HQ.out
              rw [this] at h2
              exact Option.some.inj (h2.symm.trans HKt.out)
            have hbq : BadL q := by rw [hqc]; exact HB.out
            have HBQ := Aside0.mk hbq
            have e95 : ((q.toNat : Int) == 95) = false := beq_eq_false_iff_ne.mpr (by have := hbq.n95; omega)
            have e46 : ((q.toNat : Int) == 46) = false := beq_eq_false_iff_ne.mpr (by have := hbq.n46; omega)
            have hdg := hbq.dig
            have hhx := hbq.hex
            clear hbq hqc
            rcases hdg with hdg | hdg
            · have n1 : ¬ (48 : Int) ≤ (q.toNat : Int) := by omega
              clear hhx hdg
              go_wp2_with (first | ((go_at_call 55; with_reducible refine (lower_any q _).mono ?_); rintro e w' ⟨rfl, rfl⟩))
              go_meet
              case rel => exact ⟨i, rfl, HR⟩
            · have y1 : (48 : Int) ≤ (q.toNat : Int) := by omega
              have n2 : ¬ (q.toNat : Int) ≤ 57 := by omega
              clear hhx hdg
              go_wp2_with (first | ((go_at_call 55; with_reducible refine (lower_any q _).mono ?_); rintro e w' ⟨rfl, rfl⟩))
              go_meet
              case rel => exact ⟨i, rfl, HR⟩
      case rest =>
        clear HD
        obtain ⟨i, rfl, HR⟩ := hcut
        obtain ⟨m, ex, dp, sm, dt, v, xs, rfl, rfl, rfl, rfl, hik, hxl, hdec⟩ := HR.out
        have HWB := Aside0.mk hdec.2.2.1
        clear HR hdec hxl
        obtain ⟨q, hq, gq⟩ := byte_at (s := s) (i := i) (by omega)
        have HQ := Aside0.mk hq
        have l0 := q.toNat_lt
        have l1 := (lowB q).toNat_lt
        have p1 : decide ((i : Int) < (s.size : Int)) = true := decide_eq_true (by omega)
        clear hq
        cases sm
        case false =>
          go_wp2
          go_ret2
          exact ⟨rfl, HWB.out⟩
        case true =>
          by_cases hmk : (lowB q).toNat = 101
          · have e1 : (((lowB q).toNat : Int) == 101) = true := beq_iff_eq.mpr (by omega)
            have hlt : i + 1 ≤ k := by
              rcases Nat.lt_or_ge i k with h | h
              · exact h
              · have e : i = k := by omega
                have h2 := HQ.out
                rw [e] at h2
                have : q = c := Option.some.inj (h2.symm.trans HKt.out)
                exact absurd hmk (by rw [this]; exact HB.out.e)
            clear hmk
            obtain ⟨j, hj⟩ : ∃ j, i + 1 = j := ⟨_, rfl⟩
            have hij : (i : Int) + 1 = (j : Int) := by omega
            rw [hj] at hlt
            have HJ := Aside0.mk hj
            clear hj
            go_upto_region 39 with (first | ((go_at_call 55; with_reducible refine (lower_any q _).mono ?_); rintro e w' ⟨rfl, rfl⟩))
            have GQ := Aside0.mk True.intro
            clear e1 HQ l0 l1 gq p1 hik
            try rw [hij]
            clear hij
            obtain ⟨r, hr, gr⟩ := byte_at (s := s) (i := j) (by omega)
            have HQr := Aside0.mk hr
            have lr := r.toNat_lt
            have p2 : decide ((j : Int) < (s.size : Int)) = true := decide_eq_true (by omega)
            clear hr
            go_cut [14] from 146 to 146 (fun v14 wx => ∃ dn : Bool, v14 = .bool dn ∧ wx = wc)
            case first =>
              by_cases h45 : r.toNat = 45
              · have e2 : ((r.toNat : Int) == 45) = true := beq_iff_eq.mpr (by omega)
                clear h45
                go_wp2
                go_meet
                case rel => exact ⟨true, rfl, rfl⟩
              · have e2 : ((r.toNat : Int) == 45) = false := beq_eq_false_iff_ne.mpr (by omega)
                clear h45
                go_wp2
                go_meet
                case rel => exact ⟨false, rfl, rfl⟩
            case rest =>
              obtain ⟨dn, rfl, rfl⟩ := hcut
              go_upto_region 40 with (fail)
              go_cut [171] from 156 to 156 (fun v171 wx => ∃ sg : Bool, v171 = .bool sg ∧ Aside0 (sg = true → j + 1 ≤ k) ∧ wx = wc)
              case first =>
                by_cases hsg : r.toNat = 43
                · have hj2 : j + 1 ≤ k := by
                    rcases Nat.lt_or_ge j k with h | h
                    · exact h
                    · have e : j = k := by omega
                      have h2 := HQr.out
                      rw [e] at h2
                      have : r = c := Option.some.inj (h2.symm.trans HKt.out)
                      exact absurd hsg (by rw [this]; exact HB.out.n43)
                  have e2 : ((r.toNat : Int) == 43) = true := beq_iff_eq.mpr (by omega)
                  clear hsg
                  go_wp2
                  go_meet
                  case rel => exact ⟨true, rfl, ⟨fun _ => hj2⟩, rfl⟩
                · have e2 : ((r.toNat : Int) == 43) = false := beq_eq_false_iff_ne.mpr (by omega)
                  clear hsg
                  by_cases hsg : r.toNat = 45
                  · have hj2 : j + 1 ≤ k := by
                      rcases Nat.lt_or_ge j k with h | h
                      · exact h
                      · have e : j = k := by omega
                        have h2 := HQr.out
                        rw [e] at h2
                        have : r = c := Option.some.inj (h2.symm.trans HKt.out)
                        exact absurd hsg (by rw [this]; exact HB.out.n45)
                    have e3 : ((r.toNat : Int) == 45) = true := beq_iff_eq.mpr (by omega)
                    clear hsg
                    go_wp2
                    go_meet
                    case rel => exact ⟨true, rfl, ⟨fun _ => hj2⟩, rfl⟩
                  · have e3 : ((r.toNat : Int) == 45) = false := beq_eq_false_iff_ne.mpr (by omega)
                    clear hsg
                    go_wp2
                    go_meet
                    case rel => exact ⟨false, rfl, ⟨fun h => by cases h⟩, rfl⟩
              case rest =>
              obtain ⟨sg, rfl, HSG, rfl⟩ := hcut
              go_upto_if 171 with (fail)
              go_cut [11] from 172 to 172 (fun v11 wx => ∃ j2 : Nat, v11 = .int .i64 (j2 : Int) ∧ Aside0 (j2 ≤ k) ∧ wx = wc)
              case first =>
                cases sg
                · go_wp2
                  go_meet
                  case rel => exact ⟨j, rfl, ⟨hlt⟩, rfl⟩
                · go_wp2
                  go_meet
                  case rel => exact ⟨j + 1, by go_num, ⟨by first | exact HSG.out rfl | exact HSG.out trivial⟩, rfl⟩
              case rest =>
                clear HQr lr gr p2 hlt
                obtain ⟨j2, rfl, HJ2, rfl⟩ := hcut
                clear HJ
                have hj2 := HJ2.out
                obtain ⟨r, hr, gr⟩ := byte_at (s := s) (i := j2) (by omega)
                have HQr := Aside0.mk hr
                have lr := r.toNat_lt
                have p2 : decide ((j2 : Int) < (s.size : Int)) = true := decide_eq_true (by omega)
                have p3 : ¬ (s.size : Int) ≤ (j2 : Int) := by omega
                clear hr
                go_upto_block 4 with (fail)
                any_goals (go_ret2; exact ⟨rfl, HWB.out⟩)
                go_cut [11, 15] from 190 to 190 (fun v11 v15 wx => ∃ (j3 : Nat) (e : Int), v11 = .int .i64 (j3 : Int) ∧ v15 = .int .i64 e ∧ Aside0 (j3 ≤ k) ∧ wx = wc)
                case first =>
                  clear p2 p3 HQr gr lr
                  go_wp2_with (fail)
                  go_loopg [11, 15] (s.size - j2) (fun kq v11 v15 w' => ∃ (j3 : Nat) (e : Int), v11 = .int .i64 (j3 : Int) ∧ v15 = .int .i64 e ∧ Aside0 (j3 + kq = s.size) ∧ Aside0 (j3 ≤ k) ∧ w' = wc)
                  case atStart => exact ⟨j2, 0, rfl, rfl, ⟨by omega⟩, HJ2, rfl⟩
                  case round =>
                    obtain ⟨j3, e, rfl, rfl, HI, HIK, rfl⟩ := hrel
                    have hj3 := HIK.out
                    obtain ⟨r, hr, gr⟩ := byte_at (s := s) (i := j3) (by omega)
                    have HQr := Aside0.mk hr
                    have lr := r.toNat_lt
                    have p2 : decide ((j3 : Int) < (s.size : Int)) = true := decide_eq_true (by omega)
                    clear hr
                    by_cases h1 : (48 : Int) ≤ (r.toNat : Int)
                    · by_cases h2 : (r.toNat : Int) ≤ 57
                      · have hlt : j3 + 1 ≤ k := by
                          rcases Nat.lt_or_ge j3 k with h | h
                          · exact h
                          · have e : j3 = k := by omega
                            have h2 := HQr.out
                            rw [e] at h2
                            have : r = c := Option.some.inj (h2.symm.trans HKt.out)
                            exfalso
                            have hd := HB.out.dig
                            have h95 := HB.out.n95
                            rw [← this] at hd h95
                            omega
                        go_wp2
                        all_goals
                          go_roundg (gk - 1)
                          case measure => have := HI.out; omega
                          case rel => exact ⟨j3 + 1, _, by go_num, rfl, ⟨by have := HI.out; omega⟩, ⟨hlt⟩, rfl⟩
                      · by_cases h3 : (r.toNat : Int) = 95
                        · have hlt : j3 + 1 ≤ k := by
                            rcases Nat.lt_or_ge j3 k with h | h
                            · exact h
                            · have e : j3 = k := by omega
                              have h2 := HQr.out
                              rw [e] at h2
                              have : r = c := Option.some.inj (h2.symm.trans HKt.out)
                              exfalso
                              have hd := HB.out.dig
                              have h95 := HB.out.n95
                              rw [← this] at hd h95
                              omega
                          have e3 : ((r.toNat : Int) == 95) = true := beq_iff_eq.mpr h3
                          have e4 : ((r.toNat : Int) != 95) = false := by rw [bne, e3]; rfl
                          clear h3
                          go_wp2
                          all_goals
                            go_roundg (gk - 1)
                            case measure => have := HI.out; omega
                            case rel => exact ⟨j3 + 1, _, by go_num, rfl, ⟨by have := HI.out; omega⟩, ⟨hlt⟩, rfl⟩
                        · have e3 : ((r.toNat : Int) == 95) = false := beq_eq_false_iff_ne.mpr h3
                          clear h3
                          go_wp2
                          go_meet
                          case rel => exact ⟨j3, e, rfl, rfl, HIK, rfl⟩
                    · have e3 : ((r.toNat : Int) == 95) = false := beq_eq_false_iff_ne.mpr (by omega)
                      go_wp2
                      go_meet
                      case rel => exact ⟨j3, e, rfl, rfl, HIK, rfl⟩
                case rest =>
                  clear p2 p3 HQr gr lr
                  obtain ⟨j3, e, rfl, rfl, HIK, rfl⟩ := hcut
                  have hj3 := HIK.out
                  have p2 : decide ((j3 : Int) < (s.size : Int)) = true := decide_eq_true (by omega)
                  cases dn
                  all_goals
                    go_wp2
                    go_ret2
                    exact ⟨rfl, HWB.out⟩
          · have e1 : (((lowB q).toNat : Int) == 101) = false := beq_eq_false_iff_ne.mpr (by omega)
            clear hmk
            go_wp2_with (first | ((go_at_call 55; with_reducible refine (lower_any q _).mono ?_); rintro e w' ⟨rfl, rfl⟩))
            go_ret2
            exact ⟨rfl, HWB.out⟩
end Go.Proofs.YtmadlpclnlbpgaaDoor.Hand
