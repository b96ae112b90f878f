/- A decimal divided by 2 to the power k. -/
import Derived.Test.YtnmochachiieaaaDoorHandPe
import Derived.Laws.BitsAllLaws
namespace Go.Proofs.YtnmochachiieaaaDoor.Hand
open Go.RowKit Go.Proofs.YtnmochachiieaaaDoorW.PrintWords Go.Proofs.YtnmochachiieaaaDoorW.PrintLast Go.Proofs.YtnmochachiieaaaDoorW.PrintMore Go.Proofs.YtnmochachiieaaaDoor.Base
open Go.Proofs.YtnmochachiieaaaDoor.Pf
set_option linter.unusedVariables false
set_option linter.unusedSimpArgs false

theorem drop_tail (l : List Nat) (i : Nat) : (l.drop i).tail = l.drop (i + 1) := by rw [List.tail_drop]
theorem drop_head (l : List Nat) {i d : Nat} (h : l[i]? = some d) : (l.drop i).headD 0 = d := by
  obtain ⟨h1, h2⟩ := List.getElem?_eq_some_iff.1 h
  rw [List.drop_eq_getElem_cons h1, h2]; rfl
theorem shr_ev (n k : Nat) : (n : Int) / 2 ^ k = ((n / 2 ^ k : Nat) : Int) := by push_cast; rfl
theorem pow_wrap {k : Nat} (hk : k ≤ 59) : IntKind.u64.wrap ((2 : Int) ^ k) = ((2 ^ k : Nat) : Int) := by
  have h1 : 2 ^ k ≤ 2 ^ 59 := Nat.pow_le_pow_right (by omega) hk
  rw [show ((2 : Int) ^ k) = ((2 ^ k : Nat) : Int) by push_cast; rfl]
  have : ∀ P : Nat, P ≤ 2 ^ 59 → ((P : Int)) % 18446744073709551616 = (P : Int) := fun P h => by omega
  exact this _ h1
theorem mask_ev (m : Nat) {k : Nat} (hk : k ≤ 59) (hm : m < 18446744073709551616) : bits .and .u64 (m : Int) (IntKind.u64.wrap (IntKind.u64.wrap ((2 : Int) ^ k) - 1)) = ((m % 2 ^ k : Nat) : Int) := by
  have h1 : 2 ^ k ≤ 2 ^ 59 := Nat.pow_le_pow_right (by omega) hk
  have h0 : 0 < 2 ^ k := Nat.pow_pos (by omega)
  rw [pow_wrap hk]
  have h2 : IntKind.u64.wrap (((2 ^ k : Nat) : Int) - 1) = ((2 ^ k - 1 : Nat) : Int) := by
    show ((((2 ^ k : Nat) : Int)) - 1) % 18446744073709551616 = _
    omega
  rw [h2, u64_and_nat _ _ hm (by omega), Nat.and_two_pow_sub_one_eq_mod]
theorem pow59 {k : Nat} (hk : k ≤ 59) : 2 ^ k ≤ 576460752303423488 := by
  have h1 : 2 ^ k ≤ 2 ^ 59 := Nat.pow_le_pow_right (by omega) hk
  omega
set_option maxHeartbeats 4000000 in
set_option maxRecDepth 100000 in
theorem half_ (w0 w : World) (B D : Nat) (a b : Dc) (k F : Nat) (H : DecN w0 B w D a) (hk0 : 1 ≤ k) (hk : k ≤ 59) (hd : ∀ x ∈ a.d, x < 10) (hl : a.d.length ≤ 1000000000) (hF : F ≤ 1000000000) (hp : -1000000000000 ≤ a.dp ∧ a.dp ≤ 1000000000000) (hb : halfF F a k = some b) :
    Calls Tryd.prog 42 #[.pointer (some ⟨D, 0, none⟩), .int .i64 (k : Int)] w fun r w' => r = .returned (.tuple #[]) ∧ DecN w0 B w' D b := by
  obtain ⟨v, H⟩ := H
  have HH := Aside0.mk H
  obtain ⟨A, c, rfl, hc⟩ := H.form
  have c0 := H.c0
  have f0 := H.f 0
  have f1 := H.f 1
  have c1 := H.c1
  have HDG := Aside0.mk hd
  have HBB := Aside0.mk hb
  have HFF := Aside0.mk hF
  have hp2 := pow59 hk
  have HP2 := Aside0.mk hp2
  clear H hd hb hF hp2
  obtain ⟨res, hres⟩ : ∃ res, hdF k 62 0 0 a.d = res := ⟨_, rfl⟩
  have HRES := Aside0.mk hres
  go_enter Tryd.func42, Tryd.ntmps42
  go_wp2
  have hne : res ≠ none := by
    intro e
    have := HBB.out
    rw [halfF, hres, e] at this
    cases this
  have HNE := Aside0.mk hne
  clear hres hne
  go_loopg [4, 5] 62 (fun kq v4 v5 w' => ∃ (n i : Nat), v4 = .int .u64 (n : Int) ∧ v5 = .int .i64 (i : Int) ∧ Aside0 (hdF k kq n i (a.d.drop i) = res) ∧ Aside0 (n < 10 * 2 ^ k) ∧ Aside0 (i + kq = 62) ∧ Aside0 (w' = w))
  case atStart => exact ⟨0, 0, rfl, rfl, HRES, ⟨by have : 0 < 2 ^ k := Nat.pow_pos (by omega); omega⟩, ⟨rfl⟩, ⟨rfl⟩⟩
  case round =>
    obtain ⟨n, i, rfl, rfl, HT, HN, HI, HW⟩ := hrel
    obtain rfl := HW.out
    obtain ⟨kq, hkq⟩ : ∃ kq, gk = kq + 1 := by
      rcases gk with _ | kq
      · exact absurd HT.out.symm (by rw [hdF]; exact HNE.out)
      · exact ⟨kq, rfl⟩
    have hT := HT.out
    rw [hkq, hdF] at hT
    have HKQ := Aside0.mk hkq
    have hpk : 0 < 2 ^ k := Nat.pow_pos (by omega)
    have h2k := HP2.out
    have hi62 : i ≤ 62 := by have := HI.out; omega
    have k5 : IntKind.i64.wrap ((i : Int) + 1) = ((i + 1 : Nat) : Int) := by rw [Go.IntWalk.i64_in _ (by omega)]; omega
    by_cases hz : n / 2 ^ k = 0
    · rw [if_pos hz] at hT
      have hn2 : n < 2 ^ k := by
        rcases Nat.div_eq_zero_iff.1 hz with h | h
        · omega
        · exact h
      have e0 : (n : Int) / 2 ^ k = 0 := by rw [shr_ev, hz]; rfl
      have e1 : IntKind.u64.wrap ((n : Int) * 10) = ((n * 10 : Nat) : Int) := by
        show ((n : Int) * 10) % 18446744073709551616 = _
        omega
      have HZ := Aside0.mk hz
      have HN2 := Aside0.mk hn2
      by_cases hi : i < a.d.length
      · obtain ⟨d, hget⟩ : ∃ d, a.d[i]? = some d := ⟨_, List.getElem?_eq_getElem hi⟩
        have hd9 : d < 10 := HDG.out d (List.mem_of_getElem? hget)
        rw [if_neg (by rw [List.drop_eq_nil_iff]; omega), drop_head _ hget, drop_tail] at hT
        obtain ⟨ad, rfl, hcell⟩ := HH.out.digit hget
        have b1 : (0 : Int) ≤ (i : Int) := by omega
        have b2 : (i : Int) < (a.d.length : Int) := by omega
        have b3 : decide ((a.d.length : Int) ≤ (i : Int)) = false := decide_eq_false (by omega)
        have b4 : decide (a.d.length ≤ i) = false := decide_eq_false (by omega)
        have b5 : decide ((i : Int) < (a.d.length : Int)) = true := decide_eq_true (by omega)
        have b6 : decide (i < a.d.length) = true := decide_eq_true (by omega)
        obtain ⟨m, hm⟩ : ∃ m, m = n * 10 := ⟨_, rfl⟩
        rw [← hm] at e1 hT
        have e2 : IntKind.u64.wrap ((m : Int) + (d : Int)) = ((m + d : Nat) : Int) := by
          show ((m : Int) + (d : Int)) % 18446744073709551616 = _
          omega
        have HT2 := Aside0.mk hT
        have HM := Aside0.mk hm
        clear hT hm hz hn2 hkq h2k
        go_wp2
        go_roundg kq
        case measure => have := HKQ.out; omega
        case rel =>
          exact ⟨m + d, i + 1, by go_num, by go_num, HT2, ⟨by have := HM.out; have := HN2.out; omega⟩, ⟨by have := HI.out; have := HKQ.out; omega⟩, ⟨rfl⟩⟩
      · have hdr : a.d.drop i = [] := List.drop_eq_nil_of_le (by omega)
        have hdr1 : a.d.drop (i + 1) = [] := List.drop_eq_nil_of_le (by omega)
        have b3 : decide ((a.d.length : Int) ≤ (i : Int)) = true := decide_eq_true (by omega)
        have b4 : decide (a.d.length ≤ i) = true := decide_eq_true (by omega)
        have b5 : decide ((i : Int) < (a.d.length : Int)) = false := decide_eq_false (by omega)
        have b6 : decide (i < a.d.length) = false := decide_eq_false (by omega)
        by_cases hn0 : n = 0
        · subst hn0
          rw [if_pos ⟨hdr, rfl⟩] at hT
          have HT2 := Aside0.mk hT
          clear hT hz hn2 hkq h2k hdr hdr1 e1 e0 hi
          go_wp2
          refine bodyPost_ret (results_none rfl _ _ _) rfl ?_
          refine ⟨rfl, ?_⟩
          have hb := HBB.out
          rw [halfF, HRES.out, ← HT2.out] at hb
          simp only [Option.some.injEq] at hb
          subst hb
          exact ⟨.slice none 0 0, (HH.out.row (Kd.R_nil _ _ _ _ _)).dp1 0⟩
        · have g1 : ((n : Int) == 0) = false := beq_eq_false_iff_ne.mpr (by omega)
          rw [if_neg (fun h => hn0 h.2), hdr] at hT
          obtain ⟨m, hm⟩ : ∃ m, m = n * 10 := ⟨_, rfl⟩
          rw [← hm] at e1 hT
          have HT2 : Aside0 (hdF k kq m (i + 1) (a.d.drop (i + 1)) = res) := ⟨by rw [hdr1]; exact hT⟩
          have HM := Aside0.mk hm
          clear hT hm hz hn2 hkq h2k hdr hdr1 hi
          go_wp2
          go_roundg kq
          case measure => have := HKQ.out; omega
          case rel =>
            exact ⟨m, i + 1, by go_num, by go_num, HT2, ⟨by have := HM.out; have := HN2.out; omega⟩, ⟨by have := HI.out; have := HKQ.out; omega⟩, ⟨rfl⟩⟩
    · rw [if_neg hz] at hT
      obtain ⟨q, hq⟩ : ∃ q, q = n / 2 ^ k := ⟨_, rfl⟩
      have e0 : (n : Int) / 2 ^ k = (q : Int) := by rw [shr_ev, hq]
      have hq0 : q ≠ 0 := by rw [hq]; exact hz
      have g1 : ((q : Int) == 0) = false := beq_eq_false_iff_ne.mpr (by omega)
      have hdp : IntKind.i64.wrap ((i : Int) - 1) = (i : Int) - 1 := Go.IntWalk.i64_in _ (by omega)
      have hdp2 : IntKind.i64.wrap (a.dp - ((i : Int) - 1)) = a.dp - ((i : Int) - 1) := Go.IntWalk.i64_in _ (by omega)
      obtain ⟨o, ho, hbo⟩ : ∃ o, qtF k F n (a.d.drop i) = some o ∧ b = trimC ⟨o, a.dp - ((i : Int) - 1)⟩ := by
        have hb := HBB.out
        rw [halfF, HRES.out, ← hT] at hb
        simp only at hb
        rcases hQ : qtF k F n (a.d.drop i) with _ | o
        · rw [hQ] at hb; cases hb
        · rw [hQ] at hb
          refine ⟨o, rfl, ?_⟩
          simpa using hb.symm
      have HO := Aside0.mk ho
      have HBO := Aside0.mk hbo
      clear hT hz hkq h2k hq hbo ho
      have D2 := Aside0.mk (HH.out.dp1 (a.dp - ((i : Int) - 1)))
      have HDL := Aside0.mk (blk_lt D2.out.1)
      go_wp2
      generalize wr.setCell _ _ = w2 at D2 HDL ⊢
      have HF0 := HFF.out
      have HI0 := Aside0.mk hi62
      have D2c := D2.out.c0
      go_loopg [4, 5, 6] F (fun kq v4 v5 v6 w' => ∃ (m j : Nat) (lo o2 : List Nat), v4 = .int .u64 (m : Int) ∧ v5 = .int .i64 (j : Int) ∧ Aside0 (qtF k kq m (a.d.drop j) = some o2) ∧ Aside0 (o = lo ++ o2) ∧ Aside0 (m < 10 * 2 ^ k) ∧ Aside0 (j + kq = i + F) ∧ Aside0 (lo.length + kq = F) ∧ Aside0 ((Kd.int .u8).R 5 w' w2.heap.size (fun _ => True) v6 (ci lo)) ∧ Aside0 (Below w2.heap.size w2 w'))
      case atStart => exact ⟨n, i, [], o, rfl, rfl, HO, ⟨rfl⟩, HN, ⟨rfl⟩, ⟨by simp⟩, ⟨Kd.R_nil _ _ _ _ _⟩, ⟨Below.refl _ _⟩⟩
      case round =>
        clear D2c
        obtain ⟨m, j, lo, o2, rfl, rfl, HT2, HO2, HM, HJ, HLK, HR, HB⟩ := hrel
        obtain ⟨kq, hkq⟩ : ∃ kq, gk = kq + 1 := by
          rcases gk with _ | kq
          · have := HT2.out; rw [qtF] at this; cases this
          · exact ⟨kq, rfl⟩
        have HKQ2 := Aside0.mk hkq
        have hT := HT2.out
        rw [hkq, qtF] at hT
        have hp2 := HP2.out
        have hm10 := HM.out
        have hjb : j ≤ 2000000000 := by have := HJ.out; omega
        have hlob : lo.length ≤ 1000000000 := by have := HLK.out; omega
        have k6 : IntKind.i64.wrap ((j : Int) + 1) = ((j + 1 : Nat) : Int) := by rw [Go.IntWalk.i64_in _ (by omega)]; omega
        obtain ⟨p, hpq⟩ : ∃ p, p = m / 2 ^ k := ⟨_, rfl⟩
        have hp10 : p < 10 := by rw [hpq]; exact Nat.div_lt_of_lt_mul (by omega)
        have e3 : (m : Int) / 2 ^ k = (p : Int) := by rw [shr_ev, hpq]
        have D3 := Aside0.mk (D2.out.below HB.out)
        by_cases hj : j < a.d.length
        · obtain ⟨d, hget⟩ : ∃ d, a.d[j]? = some d := ⟨_, List.getElem?_eq_getElem hj⟩
          have hd9 : d < 10 := HDG.out d (List.mem_of_getElem? hget)
          rw [if_neg (by rw [List.drop_eq_nil_iff]; omega), drop_head _ hget, drop_tail] at hT
          have c2 := D3.out.c0
          obtain ⟨ad, rfl, hcell⟩ := D3.out.digit hget
          have b1 : (0 : Int) ≤ (j : Int) := by omega
          have b2 : (j : Int) < (a.d.length : Int) := by omega
          have b5 : decide ((j : Int) < (a.d.length : Int)) = true := decide_eq_true (by omega)
          have b6 : decide (j < a.d.length) = true := decide_eq_true (by omega)
          obtain ⟨x, hx⟩ : ∃ x, x = m % 2 ^ k := ⟨_, rfl⟩
          have e4 : bits .and .u64 (m : Int) (IntKind.u64.wrap (IntKind.u64.wrap ((2 : Int) ^ k) - 1)) = (x : Int) := by rw [hx]; exact mask_ev m hk (by omega)
          have hx2 : x < 2 ^ k := by rw [hx]; exact Nat.mod_lt _ hpk
          obtain ⟨y, hy⟩ : ∃ y, y = x * 10 := ⟨_, rfl⟩
          have e7 : IntKind.u64.wrap ((x : Int) * 10) = (y : Int) := by
            show ((x : Int) * 10) % 18446744073709551616 = _
            omega
          have e8 : IntKind.u64.wrap ((y : Int) + (d : Int)) = ((y + d : Nat) : Int) := by
            show ((y : Int) + (d : Int)) % 18446744073709551616 = _
            omega
          rw [← hx, ← hy, ← hpq] at hT
          have HX2 := Aside0.mk hx2
          have HY := Aside0.mk hy
          clear hx hy hx2
          have HPQ := Aside0.mk hpq
          obtain ⟨o3, ho3, ho4⟩ : ∃ o3, qtF k kq (y + d) (a.d.drop (j + 1)) = some o3 ∧ o2 = p :: o3 := by
            rcases hQ : qtF k kq (y + d) (a.d.drop (j + 1)) with _ | o3
            · rw [hQ] at hT; cases hT
            · rw [hQ] at hT
              refine ⟨o3, rfl, ?_⟩
              simpa using hT.symm
          have HO3 := Aside0.mk ho3
          have HO4 := Aside0.mk ho4
          clear hkq hj hpq hT ho3 ho4
          go_upto_region 13 with (fail)
          go_upto_region 14 with ((with_reducible refine gate_builtin (b := .append) (xs := #[.tmp 68, .tmp 73]) rfl ?_); go_loud (at_builtin; refine Kd.R_append (Kd.int .u8) (w0 := w2) w2.heap.size rfl (.tmp 68) (.tmp 73) 39 5 (.int .u8 0) 1 rfl Tryd.underlying39 info5 rfl (by decide) (by omega) u6 (ci lo) (p : Int) [.int .u8 (p : Int)] (fun _ => True) (fun _ => False) rfl rfl ?aP (fun _ hk => hk.elim) (fun _ _ => trivial) HR.out HB.out HB.out.size ?aL ?_; (case aP => exact rfl); (case aL => rw [ci_len]; omega); intro v1 w1 ho hb hg hat; have HR1 := Aside0.mk ho; have HB1 := Aside0.mk hb; clear ho hb hg hat))
          have D4 := Aside0.mk (D2.out.below HB1.out)
          clear hcell c2
          have c2 := D4.out.c0
          obtain ⟨_, hA, hcell⟩ := D4.out.digit hget
          injection hA with hA
          subst hA
          go_wp2
          go_roundg kq
          case measure => have := HKQ2.out; omega
          case rel =>
            refine ⟨y + d, j + 1, lo ++ [p], o3, by go_num, by go_num, HO3, ⟨?_⟩, ⟨?_⟩, ⟨?_⟩, ⟨?_⟩, ⟨by rw [ci_append]; exact HR1.out⟩, HB1⟩
            · rw [HO2.out, HO4.out, List.append_assoc]; rfl
            · have := HX2.out; have := HY.out; omega
            · have := HJ.out; have := HKQ2.out; omega
            · have := HLK.out; have := HKQ2.out; simp; omega
        · have hdr : a.d.drop j = [] := List.drop_eq_nil_of_le (by omega)
          have hdr1 : a.d.drop (j + 1) = [] := List.drop_eq_nil_of_le (by omega)
          have b5 : decide ((j : Int) < (a.d.length : Int)) = false := decide_eq_false (by omega)
          have b6 : decide (j < a.d.length) = false := decide_eq_false (by omega)
          by_cases hm0 : m = 0
          · subst hm0
            rw [if_pos ⟨hdr, rfl⟩] at hT
            have HT3 := Aside0.mk hT
            have c2 := D3.out.c0
            have f2 := D3.out.f 0
            clear hkq hj hpq hT hdr hdr1 hp10 e3
            obtain ⟨A1, c1', rfl, hc1, _⟩ := Kd.R_reads HR.out
            have el := ci_len lo
            rw [el] at HR ⊢
            have D9 : Aside0 (DecN w0 B (wr.setCell ⟨D, 0, none⟩ (.slice A1 lo.length c1')) D ⟨lo, a.dp - ((i : Int) - 1)⟩) := ⟨.slice A1 lo.length c1', D3.out.row (R_fit HR.out D2.out.2.2.2.2 HDL.out)⟩
            clear el hc1
            go_wp2_with ((go_at_call 38; refine (trim_ w0 _ B D ⟨lo, a.dp - ((i : Int) - 1)⟩ D9.out ?hL).mono ?_; (case hL => have := HLK.out; have := HFF.out; simp; omega); rintro e w4 ⟨rfl, hd4⟩; have D4 := Aside0.mk hd4; clear hd4))
            go_end0
            refine ⟨rfl, ?_⟩
            have h9 := D4.out
            have h8 := HT3.out
            simp only [Option.some.injEq] at h8
            rw [HBO.out, HO2.out, ← h8, List.append_nil]
            exact h9
          · have g2 : decide ((0 : Int) < (m : Int)) = true := decide_eq_true (by omega)
            have g3 : decide (0 < m) = true := decide_eq_true (by omega)
            rw [if_neg (fun h => hm0 h.2), hdr] at hT
            have c2 := D3.out.c0
            obtain ⟨x, hx⟩ : ∃ x, x = m % 2 ^ k := ⟨_, rfl⟩
            have e4 : bits .and .u64 (m : Int) (IntKind.u64.wrap (IntKind.u64.wrap ((2 : Int) ^ k) - 1)) = (x : Int) := by rw [hx]; exact mask_ev m hk (by omega)
            have hx2 : x < 2 ^ k := by rw [hx]; exact Nat.mod_lt _ hpk
            obtain ⟨y, hy⟩ : ∃ y, y = x * 10 := ⟨_, rfl⟩
            have e7 : IntKind.u64.wrap ((x : Int) * 10) = (y : Int) := by
              show ((x : Int) * 10) % 18446744073709551616 = _
              omega
            rw [← hx] at hT
            have hT : (qtF k kq y []).map (p :: ·) = some o2 := by rw [hpq, hy]; exact hT
            obtain ⟨o3, ho3, ho4⟩ : ∃ o3, qtF k kq y (a.d.drop (j + 1)) = some o3 ∧ o2 = p :: o3 := by
              rw [hdr1]
              rcases hQ : qtF k kq y [] with _ | o3
              · rw [hQ] at hT; cases hT
              · rw [hQ] at hT
                refine ⟨o3, rfl, ?_⟩
                simpa using hT.symm
            have HX2 := Aside0.mk hx2
            have HY := Aside0.mk hy
            have HO3 := Aside0.mk ho3
            have HO4 := Aside0.mk ho4
            clear hx hy hx2 hkq hj hpq hT ho3 ho4 hdr hdr1 hm0
            go_upto_region 13 with (fail)
            go_upto_region 14 with ((with_reducible refine gate_builtin (b := .append) (xs := #[.tmp 68, .tmp 73]) rfl ?_); go_loud (at_builtin; refine Kd.R_append (Kd.int .u8) (w0 := w2) w2.heap.size rfl (.tmp 68) (.tmp 73) 39 5 (.int .u8 0) 1 rfl Tryd.underlying39 info5 rfl (by decide) (by omega) u6 (ci lo) (p : Int) [.int .u8 (p : Int)] (fun _ => True) (fun _ => False) rfl rfl ?aP (fun _ hk => hk.elim) (fun _ _ => trivial) HR.out HB.out HB.out.size ?aL ?_; (case aP => exact rfl); (case aL => rw [ci_len]; omega); intro v1 w1 ho hb hg hat; have HR1 := Aside0.mk ho; have HB1 := Aside0.mk hb; clear ho hb hg hat))
            have D4 := Aside0.mk (D2.out.below HB1.out)
            clear c2
            have c2 := D4.out.c0
            go_wp2
            go_roundg kq
            case measure => have := HKQ2.out; omega
            case rel =>
              refine ⟨y, j + 1, lo ++ [p], o3, by go_num, by go_num, HO3, ⟨?_⟩, ⟨?_⟩, ⟨?_⟩, ⟨?_⟩, ⟨by rw [ci_append]; exact HR1.out⟩, HB1⟩
              · rw [HO2.out, HO4.out, List.append_assoc]; rfl
              · have := HX2.out; have := HY.out; omega
              · have := HJ.out; have := HKQ2.out; omega
              · have := HLK.out; have := HKQ2.out; simp; omega
end Go.Proofs.YtnmochachiieaaaDoor.Hand
