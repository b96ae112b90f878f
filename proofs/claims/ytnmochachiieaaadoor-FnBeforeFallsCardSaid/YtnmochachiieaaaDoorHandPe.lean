/- A decimal times 2 to the power k. -/
import Derived.Test.YtnmochachiieaaaDoorHandPd
import Derived.IntWalk
namespace Go.Proofs.YtnmochachiieaaaDoor.Hand
open Go.RowKit Go.Proofs.YtnmochachiieaaaDoorW.PrintWords Go.Proofs.YtnmochachiieaaaDoorW.PrintLast Go.Proofs.YtnmochachiieaaaDoorW.PrintMore Go.Proofs.YtnmochachiieaaaDoor.Base
open Go.Proofs.YtnmochachiieaaaDoor.Pf
set_option linter.unusedVariables false
set_option linter.unusedSimpArgs false

theorem ci_append (l : List Nat) (x : Nat) : ci (l ++ [x]) = ci l ++ [(x : Int)] := by simp [ci]
theorem shl_ev (d k : Nat) (hd : d < 10) (hk : k ≤ 59) : IntKind.u64.wrap ((d : Int) * 2 ^ k) = ((d * 2 ^ k : Nat) : Int) := by
  have h1 : 2 ^ k ≤ 2 ^ 59 := Nat.pow_le_pow_right (by omega) hk
  have h2 : d * 2 ^ k ≤ 9 * 2 ^ 59 := Nat.mul_le_mul (by omega) h1
  rw [show ((d : Int) * 2 ^ k) = ((d * 2 ^ k : Nat) : Int) by push_cast; rfl]
  show (((d * 2 ^ k : Nat) : Int)) % 18446744073709551616 = _
  omega
/-- A list turned from both its ends, i steps far. -/
def Sw (lo l : List Nat) (i : Nat) : Prop := l.length = lo.length ∧ ∀ x, x < lo.length → l[x]? = (if x < i ∨ lo.length ≤ x + i then lo[lo.length - 1 - x]? else lo[x]?)
theorem Sw.zero (lo : List Nat) : Sw lo lo 0 := ⟨rfl, fun x hx => by rw [if_neg (by omega)]⟩
theorem Sw.step {lo l : List Nat} {i j a b : Nat} (h : Sw lo l i) (hj : i + 1 + j = lo.length) (hij : i < j) (ha : l[i]? = some a) (hb : l[j]? = some b) : Sw lo ((l.set i b).set j a) (i + 1) := by
  refine ⟨by simp [h.1], fun x hx => ?_⟩
  have h1 := h.2 x hx
  by_cases e1 : x = j
  · subst e1
    rw [List.getElem?_set_self (by simp [h.1]; omega), if_pos (by omega)]
    have h2 := h.2 i (by omega)
    rw [if_neg (by omega), ha] at h2
    rw [h2]
    congr 1
    omega
  · rw [List.getElem?_set_ne (by omega)]
    by_cases e2 : x = i
    · subst e2
      rw [List.getElem?_set_self (by rw [h.1]; omega), if_pos (by omega)]
      have h2 := h.2 j (by omega)
      rw [if_neg (by omega), hb] at h2
      rw [h2]
      congr 1
      omega
    · rw [List.getElem?_set_ne (by omega), h1]
      by_cases e3 : x < i ∨ lo.length ≤ x + i
      · rw [if_pos e3, if_pos (by omega)]
      · rw [if_neg e3, if_neg (by omega)]
theorem Sw.stop {lo l : List Nat} {i : Nat} (h : Sw lo l i) (hi : lo.length ≤ i + i + 1) : l = lo.reverse := by
  refine List.ext_getElem? fun x => ?_
  by_cases hx : x < lo.length
  · rw [h.2 x hx, List.getElem?_reverse hx]
    by_cases e : x < i ∨ lo.length ≤ x + i
    · rw [if_pos e]
    · rw [if_neg e]
      congr 1
      omega
  · rw [List.getElem?_eq_none (by rw [h.1]; omega), List.getElem?_eq_none (by simp; omega)]
theorem ci_set (l : List Nat) (i x : Nat) : ci (l.set i x) = (ci l).set i (x : Int) := by simp [ci, List.map_set]
theorem R_digit {W : World} {b g n cap i x : Nat} {ok : Nat → Prop} {l : List Nat} (h : (Kd.int .u8).R 5 W b ok (.slice (some ⟨g, 0, none⟩) n cap) (ci l)) (hi : i < n) (hx : l[i]? = some x) : W.cell? ⟨g, i, none⟩ = some (.int .u8 (x : Int)) ∧ W.frozen? ⟨g, i, none⟩ = false := by
  have h1 := Kd.R_celln 0 h (i : Int) (by omega) (by omega)
  rw [Int.toNat_natCast] at h1
  have h2 : rdOf 0 (ci l) (i : Int) = (x : Int) := by simp [rdOf, List.getD, ci_get hx]
  rw [h2] at h1
  exact h1
theorem R_putd {W : World} {b g n cap : Nat} {ok : Nat → Prop} {l : List Nat} (h : (Kd.int .u8).R 5 W b ok (.slice (some ⟨g, 0, none⟩) n cap) (ci l)) (i x : Nat) : (Kd.int .u8).R 5 (W.setCell ⟨g, i, none⟩ (.int .u8 (x : Int))) b ok (.slice (some ⟨g, 0, none⟩) n cap) (ci (l.set i x)) := by
  have h1 := Kd.R_putn h (i : Int) (x : Int)
  rw [Int.toNat_natCast] at h1
  rw [ci_set]
  exact h1
/-- A new row is fit for the decimal. -/
theorem R_fit {W : World} {B b D : Nat} {v : Value} {xs : List Int} (h : (Kd.int .u8).R 5 W b (fun _ => True) v xs) (hb : B ≤ b) (hD : D < b) : (Kd.int .u8).R 5 W B (fun k => k ≠ D) v xs :=
  Kd.R_lower (Kd.R_mono (Kd.R_bound h) (fun k hk => by have := hk.2.1; omega)) hb
theorem R_off {W : World} {b D : Nat} {v : Value} {xs : List Int} (h : (Kd.int .u8).R 5 W b (fun _ => True) v xs) (hD : D < b) (i : Nat) (x : Value) : (Kd.int .u8).R 5 (W.setCell ⟨D, i, none⟩ x) b (fun _ => True) v xs :=
  Kd.R_mono (Kd.R_far (p := ⟨D, i, none⟩) (Kd.R_mono (ok' := fun k => k ≠ D) (Kd.R_bound h) (fun k hk => by have := hk.2.1; omega)) (fun _ hk => hk) x) (fun _ _ => trivial)
theorem R_drewT {W : World} {b : Nat} {v : Value} {xs : List Int} (h : (Kd.int .u8).R 5 W b (fun _ => True) v xs) : (Kd.int .u8).R 5 W.drew b (fun _ => True) v xs := Kd.R_drew h
set_option maxHeartbeats 4000000 in
set_option maxRecDepth 100000 in
theorem double_ (w0 w : World) (B D : Nat) (a : Dc) (k : Nat) (H : DecN w0 B w D a) (hk : k ≤ 59) (hd : ∀ x ∈ a.d, x < 10) (hl : a.d.length ≤ 1000000000) (hp : -1000000000000 ≤ a.dp ∧ a.dp ≤ 1000000000000) :
    Calls Tryd.prog 43 #[.pointer (some ⟨D, 0, none⟩), .int .i64 (k : Int)] w fun r w' => r = .returned (.tuple #[]) ∧ DecN w0 B w' D (dblC a k) := by
  obtain ⟨v, H⟩ := H
  have HH := Aside0.mk H
  obtain ⟨A, c, rfl, hc⟩ := H.form
  have c0 := H.c0
  have HD := Aside0.mk hd
  have HDL := Aside0.mk (show D < w.heap.size from blk_lt H.1)
  have HB0 := Aside0.mk (show B ≤ w.heap.size from H.2.2.2.2)
  have hlt := Aside0.mk (dblL_len2 k (by omega) a.d.reverse 0 (by simpa using hd) (Nat.zero_le _))
  have e1 : IntKind.i64.wrap ((a.d.length : Int) - 1) = (a.d.length : Int) - 1 := Go.IntWalk.i64_in _ (by omega)
  clear H hd
  go_enter Tryd.func43, Tryd.ntmps43
  go_wp2
  go_loopg [4, 5, 6] (dblL k 0 a.d.reverse).length (fun kq v4 v5 v6 w' => ∃ (n : Nat) (lo : List Nat) (i : Int), v4 = .int .u64 (n : Int) ∧ v6 = .int .i64 i ∧ Aside0 (i = (a.d.length : Int) - 1 - lo.length) ∧ Aside0 ((dblL k n (a.d.reverse.drop lo.length)).length = kq) ∧ Aside0 (lo ++ dblL k n (a.d.reverse.drop lo.length) = dblL k 0 a.d.reverse) ∧ Aside0 (n ≤ 2 ^ k) ∧ Aside0 ((Kd.int .u8).R 5 w' w.heap.size (fun _ => True) v5 (ci lo)) ∧ Aside0 (Below w.heap.size w w'))
  case atStart => exact ⟨0, [], _, rfl, rfl, ⟨by simp⟩, ⟨rfl⟩, ⟨rfl⟩, ⟨Nat.zero_le _⟩, ⟨Kd.R_nil _ _ _ _ _⟩, ⟨Below.refl _ _⟩⟩
  case round =>
    clear c0
    obtain ⟨n, lo, i, rfl, rfl, HI, HLN, HT, HNK, HR, HB⟩ := hrel
    have D1 := Aside0.mk (HH.out.below HB.out)
    have hlo : lo.length ≤ a.d.length + 20 := by
      have h1 := congrArg List.length HT.out
      have h2 := hlt.out
      simp only [List.length_append, List.length_reverse] at h1 h2
      omega
    by_cases hi : lo.length < a.d.length
    · obtain ⟨p, hp1⟩ : ∃ p, a.d.length = lo.length + 1 + p := ⟨a.d.length - lo.length - 1, by omega⟩
      have hip : i = (p : Int) := by have := HI.out; omega
      subst hip
      have hget : ∃ d, a.d[p]? = some d := ⟨_, List.getElem?_eq_getElem (by omega)⟩
      obtain ⟨d, hget⟩ := hget
      have hdr : a.d.reverse.drop lo.length = d :: a.d.reverse.drop (lo.length + 1) := by
        have h1 : a.d.reverse[lo.length]? = some d := by
          rw [List.getElem?_reverse (by omega), ← hget]
          congr 1
          omega
        obtain ⟨h2, h3⟩ := List.getElem?_eq_some_iff.1 h1
        rw [List.drop_eq_getElem_cons h2, h3]
      have hd9 : d < 10 := HD.out d (List.mem_of_getElem? hget)
      obtain ⟨ad, hA, hcell⟩ := D1.out.digit hget
      have c1 := D1.out.c0
      subst hA
      obtain ⟨q, hq⟩ : ∃ q, q = d * 2 ^ k := ⟨_, rfl⟩
      have e2 : IntKind.u64.wrap ((d : Int) * 2 ^ k) = (q : Int) := by rw [hq]; exact shl_ev d k hd9 hk
      have hm64 : n + q < 18446744073709551616 := by
        have h1 : 2 ^ k ≤ 2 ^ 59 := Nat.pow_le_pow_right (by omega) hk
        have h2 : d * 2 ^ k ≤ 9 * 2 ^ 59 := Nat.mul_le_mul (by omega) h1
        have h3 := HNK.out
        omega
      obtain ⟨m, hm⟩ : ∃ m, m = n + q := ⟨_, rfl⟩
      have e3 : IntKind.u64.wrap ((n : Int) + (q : Int)) = (m : Int) := by
        show ((n : Int) + (q : Int)) % 18446744073709551616 = _
        omega
      have hm10 : m < 18446744073709551616 := by omega
      have HM := Aside0.mk (show m = n + d * 2 ^ k by omega)
      have b1 : (0 : Int) ≤ (p : Int) := by omega
      have b2 : (p : Int) < (a.d.length : Int) := by omega
      have hsub : IntKind.i64.wrap ((p : Int) - 1) = (p : Int) - 1 := Go.IntWalk.i64_in _ (by omega)
      have HPL := Aside0.mk hp1
      clear hq hm hm64 hp1
      go_upto_region 7 with (fail)
      go_upto_region 8 with ((with_reducible refine gate_builtin (b := .append) (xs := #[.tmp 37, .tmp 41]) rfl ?_); (at_builtin; refine Kd.R_append (Kd.int .u8) (w0 := w) w.heap.size rfl (.tmp 37) (.tmp 41) 39 5 (.int .u8 0) 1 rfl Tryd.underlying39 info5 rfl (by decide) (by omega) u5 (ci lo) ((m : Int) % 10) [.int .u8 ((m : Int) % 10)] (fun _ => True) (fun _ => False) rfl rfl ?aP (fun _ hk => hk.elim) (fun _ _ => trivial) HR.out HB.out HB.out.size ?aL ?_; (case aP => exact rfl); (case aL => rw [ci_len]; omega); intro v1 w1 ho hb hg hat; have HR1 := Aside0.mk ho; have HB1 := Aside0.mk hb; clear ho hb hg hat))
      have e10 : ci lo ++ [(m : Int) % 10] = ci (lo ++ [m % 10]) := by rw [ci_append]; simp
      go_wp2
      go_roundg (gk - 1)
      case measure =>
        have h1 := HLN.out
        rw [hdr, dblL] at h1
        simp at h1
        omega
      case rel =>
        refine ⟨m / 10, lo ++ [m % 10], (p : Int) - 1, by go_num, by go_num, ⟨by have := HPL.out; simp; omega⟩, ⟨?_⟩, ⟨?_⟩, ⟨?_⟩, ⟨by rw [← e10]; exact HR1.out⟩, ⟨HB1.out⟩⟩
        · have h1 := HLN.out
          rw [hdr, dblL, ← HM.out] at h1
          simp only [List.length_append, List.length_cons, List.length_nil, Nat.zero_add] at h1 ⊢
          omega
        · have h1 := HT.out
          rw [hdr, dblL, ← HM.out] at h1
          rw [List.append_assoc, List.length_append]
          exact h1
        · rw [HM.out]
          exact carry_le HNK.out hd9
    · have hdr : a.d.reverse.drop lo.length = [] := List.drop_eq_nil_of_le (by simp; omega)
      have hineg : i < 0 := by have := HI.out; omega
      have g1 : decide ((0 : Int) ≤ i) = false := decide_eq_false (by omega)
      have hn64 : n < 18446744073709551616 := by
        have h1 : 2 ^ k ≤ 2 ^ 59 := Nat.pow_le_pow_right (by omega) hk
        have h3 := HNK.out
        omega
      have HN64 := Aside0.mk hn64
      have HLO := Aside0.mk hlo
      have HII := Aside0.mk hi
      have hib : -100 ≤ i := by have := HI.out; omega
      have hsub : IntKind.i64.wrap (i - 1) = i - 1 := Go.IntWalk.i64_in _ (by omega)
      by_cases hn : n = 0
      · subst hn
        have HLX : Aside0 (lo = dblL k 0 a.d.reverse) := ⟨by
          have h1 := HT.out
          rw [hdr, dblL, outD_zero, List.append_nil] at h1
          exact h1⟩
        obtain ⟨A1, c1, rfl, hc1, _⟩ := Kd.R_reads HR.out
        rw [ci_len] at hc1
        have el := ci_len lo
        have c0 := D1.out.c0
        have cp := D1.out.c1
        have fp := D1.out.f 1
        have e4 : IntKind.i64.wrap ((lo.length : Int) - (a.d.length : Int)) = (lo.length : Int) - (a.d.length : Int) := Go.IntWalk.i64_in _ (by omega)
        have e5 : IntKind.i64.wrap (a.dp + ((lo.length : Int) - (a.d.length : Int))) = a.dp + ((lo.length : Int) - (a.d.length : Int)) := Go.IntWalk.i64_in _ (by omega)
        rw [el] at HR ⊢
        clear el hlo hi
        go_upto_region 9 with (fail)
        go_region
        have D2 := Aside0.mk ((D1.out.dp1 (a.dp + ((lo.length : Int) - (a.d.length : Int)))).drew)
        have R2 := Aside0.mk (R_drewT (R_off HR.out HDL.out 1 (.int .i64 (a.dp + ((lo.length : Int) - (a.d.length : Int))))))
        have e6 : IntKind.i64.wrap ((lo.length : Int) - 1) = (lo.length : Int) - 1 := Go.IntWalk.i64_in _ (by have := HLO.out; omega)
        clear c0 cp fp HR
        have HDB := Aside0.mk (show D + 1 ≤ w.heap.size from HDL.out)
        generalize (wr.setCell _ _).drew = w2 at D2 R2 ⊢
        clear D1 HB
        go_wp2
        go_loopg [7, 8] lo.length (fun kq v7 v8 w' => ∃ (i : Nat) (l : List Nat) (j0 : Int), v7 = .int .i64 (i : Int) ∧ v8 = .int .i64 j0 ∧ Aside0 (j0 = (lo.length : Int) - 1 - (i : Int)) ∧ Aside0 (i + kq = lo.length) ∧ Aside0 (Sw lo l i) ∧ Aside0 ((Kd.int .u8).R 5 w' w.heap.size (fun _ => True) (.slice A1 lo.length c1) (ci l)) ∧ Aside0 (w'.heap[D]? = some (.cells #[.slice A a.d.length c, .int .i64 (a.dp + ((lo.length : Int) - (a.d.length : Int)))] 75 (0, 0))) ∧ Aside0 (Kp w0 B D w' ∧ B ≤ w'.heap.size))
        case atStart => exact ⟨0, lo, _, rfl, rfl, ⟨by simp⟩, ⟨by omega⟩, ⟨Sw.zero lo⟩, R2, ⟨D2.out.1⟩, ⟨D2.out.2.2.1, D2.out.2.2.2.2⟩⟩
        case round =>
          clear R2 D2
          obtain ⟨i, l, j0, rfl, rfl, HJ, HK, HS, HR, HD2, HW⟩ := hrel
          have hlo := HLO.out
          have ell : l.length = lo.length := HS.out.1
          by_cases hgo : i + i + 1 < lo.length
          · obtain ⟨j, hj⟩ : ∃ j, i + 1 + j = lo.length := ⟨lo.length - i - 1, by omega⟩
            have hj0 : j0 = (j : Int) := by have := HJ.out; omega
            subst hj0
            obtain ⟨g, cap, hv, hg1, hg2, _⟩ := Kd.R_form HR.out (by rw [ci_len]; omega)
            rw [ci_len, ell] at hv
            simp only [Value.slice.injEq] at hv
            obtain ⟨rfl, _, rfl⟩ := hv
            obtain ⟨a1, ha⟩ : ∃ a1, l[i]? = some a1 := ⟨_, List.getElem?_eq_getElem (by omega)⟩
            obtain ⟨b1, hb⟩ : ∃ b1, l[j]? = some b1 := ⟨_, List.getElem?_eq_getElem (by omega)⟩
            obtain ⟨ca, fa⟩ := R_digit HR.out (i := i) (by omega) ha
            obtain ⟨cb, fb⟩ := R_digit HR.out (i := j) (by omega) hb
            have hne : i ≠ j := by omega
            obtain ⟨cy, fy⟩ := R_digit (R_putd HR.out i b1) (i := j) (x := b1) (by omega) (by rw [List.getElem?_set_ne hne]; exact hb)
            have cy2 : (wr.drew.setCell ⟨g, i, none⟩ (.int .u8 (b1 : Int))).cell? ⟨g, j, none⟩ = some (.int .u8 (b1 : Int)) := cy
            have fy2 : (wr.drew.setCell ⟨g, i, none⟩ (.int .u8 (b1 : Int))).frozen? ⟨g, j, none⟩ = false := fy
            have k1 : (0 : Int) ≤ (i : Int) := by omega
            have k2 : (i : Int) < (lo.length : Int) := by omega
            have k3 : (0 : Int) ≤ (j : Int) := by omega
            have k4 : (j : Int) < (lo.length : Int) := by omega
            have k5 : IntKind.i64.wrap ((i : Int) + 1) = ((i + 1 : Nat) : Int) := by rw [Go.IntWalk.i64_in _ (by omega)]; omega
            have k6 : IntKind.i64.wrap ((j : Int) - 1) = (j : Int) - 1 := Go.IntWalk.i64_in _ (by omega)
            have k7 : decide ((i : Int) < (j : Int)) = true := decide_eq_true (by omega)
            have k8 : decide (i < j) = true := decide_eq_true (by omega)
            have HJJ := Aside0.mk hj
            have HA := Aside0.mk ha
            have HB2 := Aside0.mk hb
            clear ell hj ha hb
            go_upto_region 13 with (fail)
            go_region
            go_wp2
            go_roundg (gk - 1)
            case measure => have := HK.out; have := HJJ.out; omega
            case rel =>
              have hDg : D ≠ g := by have := HDB.out; omega
              refine ⟨i + 1, (l.set i b1).set j a1, (j : Int) - 1, by go_num, by go_num, ⟨by have := HJJ.out; omega⟩, ⟨by have := HK.out; have := HJJ.out; omega⟩, ⟨HS.out.step HJJ.out (by have := HJJ.out; omega) HA.out HB2.out⟩, ⟨R_drewT (R_putd (R_putd HR.out i b1) j a1)⟩, ⟨?_⟩, ⟨?_, ?_⟩⟩
              · show ((wr.setCell ⟨g, i, none⟩ _).setCell ⟨g, j, none⟩ _).heap[D]? = _
                rw [Below.heap_setCell _ _ _ _ hDg, Below.heap_setCell _ _ _ _ hDg]
                exact HD2.out
              · have hBg : B ≤ g := by have := HB0.out; omega
                have hg0 : w0.heap.size ≤ g := by have := HH.out.2.2.1.size; omega
                exact ((HW.out.1.setN hBg hg0 i _).setN hBg hg0 j _).drew
              · have := HW.out.2
                simpa using this
          · have hgo2 : decide ((i : Int) < j0) = false := decide_eq_false (by have := HJ.out; omega)
            have hl2 := HS.out.stop (by omega)
            have HR3 : Aside0 ((Kd.int .u8).R 5 wr w.heap.size (fun _ => True) (.slice A1 lo.length c1) (ci lo.reverse)) := ⟨by rw [← hl2]; exact HR.out⟩
            have HBLK := HD2
            have cD := blk_cell HD2.out 0
            have fD : wr.frozen? ⟨D, 0, none⟩ = false := blk_frozen HD2.out 0
            have cD2 : wr.cell? ⟨D, 0, none⟩ = some (.slice A a.d.length c) := cD
            clear cD hl2 HR ell
            have hgo3 : decide ((i : Int) < j0) = false := hgo2
            have D9 : Aside0 (DecN w0 B (wr.setCell ⟨D, 0, none⟩ (.slice A1 lo.length c1)) D ⟨lo.reverse, a.dp + ((lo.length : Int) - (a.d.length : Int))⟩) := ⟨.slice A1 lo.length c1,
              blk_put HBLK.out 0 _ rfl, Kd.R_far (p := ⟨D, 0, none⟩) (R_fit HR3.out HB0.out HDB.out) (fun _ hk => hk) _, HW.out.1.setD HH.out.2.2.2.1 0 _, HH.out.2.2.2.1, by simpa using HW.out.2⟩
            go_wp2_with ((go_at_call 38; refine (trim_ w0 _ B D ⟨lo.reverse, a.dp + ((lo.length : Int) - (a.d.length : Int))⟩ D9.out ?hL).mono ?_; (case hL => have := HLO.out; simp; omega); rintro e w4 ⟨rfl, hd4⟩; have D4 := Aside0.mk hd4; clear hd4))
            go_end0
            refine ⟨rfl, ?_⟩
            have h9 := D4.out
            rw [HLX.out] at h9
            simpa [dblC] using h9
      · have g2 : decide ((0 : Int) < (n : Int)) = true := decide_eq_true (by omega)
        have g3 : decide (0 < n) = true := decide_eq_true (by omega)
        have e10 : ci lo ++ [(n : Int) % 10] = ci (lo ++ [n % 10]) := by rw [ci_append]; simp
        have HN := Aside0.mk hn
        clear hlo hi hn
        go_upto_region 7 with (fail)
        go_upto_region 8 with ((with_reducible refine gate_builtin (b := .append) (xs := #[.tmp 37, .tmp 41]) rfl ?_); at_builtin; refine Kd.R_append (Kd.int .u8) (w0 := w) w.heap.size rfl (.tmp 37) (.tmp 41) 39 5 (.int .u8 0) 1 rfl Tryd.underlying39 info5 rfl (by decide) (by omega) u5 (ci lo) ((n : Int) % 10) [.int .u8 ((n : Int) % 10)] (fun _ => True) (fun _ => False) rfl rfl ?aP (fun _ hk => hk.elim) (fun _ _ => trivial) HR.out HB.out HB.out.size ?aL ?_; (case aP => exact rfl); (case aL => rw [ci_len]; have := HLO.out; omega); intro v1 w1 ho hb hg hat; have HR1 := Aside0.mk ho; have HB1 := Aside0.mk hb; clear ho hb hg hat)
        go_wp2
        go_roundg (gk - 1)
        case measure =>
          have h1 := HLN.out
          rw [hdr, dblL, outD_pos HN.out] at h1
          simp at h1
          omega
        case rel =>
          have hdr2 : a.d.reverse.drop (lo ++ [n % 10]).length = [] := List.drop_eq_nil_of_le (by have := HII.out; simp; omega)
          refine ⟨n / 10, lo ++ [n % 10], i - 1, by go_num, by go_num, ⟨by have := HI.out; simp; omega⟩, ⟨?_⟩, ⟨?_⟩, ⟨?_⟩, ⟨by rw [← e10]; exact HR1.out⟩, ⟨HB1.out⟩⟩
          · have h1 := HLN.out
            rw [hdr, dblL, outD_pos HN.out] at h1
            rw [hdr2, dblL]
            simp only [List.length_cons] at h1
            omega
          · have h1 := HT.out
            rw [hdr, dblL, outD_pos HN.out] at h1
            rw [hdr2, dblL, List.append_assoc]
            exact h1
          · have := HNK.out
            omega
end Go.Proofs.YtnmochachiieaaaDoor.Hand
