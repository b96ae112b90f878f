/- A decimal's digits, and the whole number nearest to it. -/
import Derived.Test.YtnmochachiieaaaDoorHandPh
namespace Go.Proofs.YtnmochachiieaaaDoor.Hand
open Go.RowKit Go.Proofs.YtnmochachiieaaaDoorW.PrintWords Go.Proofs.YtnmochachiieaaaDoorW.PrintLast Go.Proofs.YtnmochachiieaaaDoorW.PrintMore Go.Proofs.YtnmochachiieaaaDoor.Base
open Go.Proofs.YtnmochachiieaaaDoor.Pf
set_option linter.unusedVariables false
set_option linter.unusedSimpArgs false

theorem dig_in {l : List Nat} {p d : Nat} (h : l[p]? = some d) : dig l (p : Int) = d := by
  have h1 := (List.getElem?_eq_some_iff.1 h).1
  unfold dig
  rw [if_pos (by omega)]
  simp [List.getD, h]
theorem dig_out {l : List Nat} {i : Int} (h : i < 0 ∨ (l.length : Int) ≤ i) : dig l i = 0 := by
  unfold dig
  rw [if_neg (by omega)]
set_option maxHeartbeats 4000000 in
set_option maxRecDepth 100000 in
theorem digit_ (w0 w : World) (B D : Nat) (a : Dc) (i : Int) (H : DecN w0 B w D a) :
    Calls Tryd.prog 51 #[.pointer (some ⟨D, 0, none⟩), .int .i64 i] w fun r w' => r = .returned (.int .u8 (dig a.d i : Int)) ∧ w' = w := by
  obtain ⟨v, H⟩ := H
  obtain ⟨A, c, rfl, hc⟩ := H.form
  have c0 := H.c0
  by_cases h0 : 0 ≤ i
  · have g1 : decide ((0 : Int) ≤ i) = true := decide_eq_true h0
    by_cases h1 : i < (a.d.length : Int)
    · have g2 : decide (i < (a.d.length : Int)) = true := decide_eq_true h1
      obtain ⟨p, rfl⟩ : ∃ p : Nat, i = (p : Int) := ⟨i.toNat, by omega⟩
      obtain ⟨d, hget⟩ : ∃ d, a.d[p]? = some d := ⟨_, List.getElem?_eq_getElem (by omega)⟩
      obtain ⟨ad, rfl, hcell⟩ := H.digit hget
      rw [dig_in hget]
      have g3 : decide (p < a.d.length) = true := decide_eq_true (by omega)
      clear H hget
      go_enter Tryd.func51, Tryd.ntmps51
      go_wp2
      go_ret
      exact ⟨rfl, rfl⟩
    · have g2 : decide (i < (a.d.length : Int)) = false := decide_eq_false h1
      rw [dig_out (by omega)]
      clear H
      go_enter Tryd.func51, Tryd.ntmps51
      go_wp2
      go_ret
      exact ⟨rfl, rfl⟩
  · have g1 : decide ((0 : Int) ≤ i) = false := decide_eq_false h0
    rw [dig_out (by omega)]
    clear H
    go_enter Tryd.func51, Tryd.ntmps51
    go_wp2
    go_ret
    exact ⟨rfl, rfl⟩

set_option maxHeartbeats 4000000 in
set_option maxRecDepth 100000 in
theorem nearUp_ (w0 w : World) (B D : Nat) (a : Dc) (n : Int) (H : DecN w0 B w D a) (hd : ∀ x ∈ a.d, x < 10) (hl : a.d.length ≤ 1000000000) :
    Calls Tryd.prog 52 #[.pointer (some ⟨D, 0, none⟩), .int .i64 n] w fun r w' => r = .returned (.bool (nearUpC a n)) ∧ w' = w := by
  obtain ⟨v, H⟩ := H
  obtain ⟨A, c, rfl, hc⟩ := H.form
  have c0 := H.c0
  by_cases h0 : n < 0
  · have g1 : decide (n < 0) = true := decide_eq_true h0
    have e : nearUpC a n = false := by unfold nearUpC; rw [if_pos (.inl h0)]
    rw [e]
    clear H
    go_enter Tryd.func52, Tryd.ntmps52
    go_wp2
    go_ret
    exact ⟨rfl, rfl⟩
  · have g1 : decide (n < 0) = false := decide_eq_false h0
    by_cases h1 : (a.d.length : Int) ≤ n
    · have g2 : decide ((a.d.length : Int) ≤ n) = true := decide_eq_true h1
      have e : nearUpC a n = false := by unfold nearUpC; rw [if_pos (.inr h1)]
      rw [e]
      clear H
      go_enter Tryd.func52, Tryd.ntmps52
      go_wp2
      go_ret
      exact ⟨rfl, rfl⟩
    · obtain ⟨p, rfl⟩ : ∃ p : Nat, n = (p : Int) := ⟨n.toNat, by omega⟩
      have g2 : decide ((a.d.length : Int) ≤ (p : Int)) = false := decide_eq_false h1
      have g3 : decide (a.d.length ≤ p) = false := decide_eq_false (by omega)
      have b1 : (0 : Int) ≤ (p : Int) := by omega
      have b2 : (p : Int) < (a.d.length : Int) := by omega
      obtain ⟨d, hget⟩ : ∃ d, a.d[p]? = some d := ⟨_, List.getElem?_eq_getElem (by omega)⟩
      have hd9 : d < 10 := hd d (List.mem_of_getElem? hget)
      obtain ⟨ad, rfl, hcell⟩ := H.digit hget
      have e0 : nearUpC a (p : Int) = (if d = 5 ∧ (p : Int) + 1 = a.d.length then decide ((0 : Int) < (p : Int)) && decide (dig a.d ((p : Int) - 1) % 2 ≠ 0) else decide (5 ≤ d)) := by
        unfold nearUpC
        rw [if_neg (by omega), dig_in hget]
      rw [e0]
      have e1 : IntKind.i64.wrap ((p : Int) + 1) = (p : Int) + 1 := Go.IntWalk.i64_in _ (by omega)
      have e2 : IntKind.i64.wrap ((p : Int) - 1) = (p : Int) - 1 := Go.IntWalk.i64_in _ (by omega)
      by_cases h5 : d = 5
      · subst h5
        by_cases hlast : (p : Int) + 1 = (a.d.length : Int)
        · rw [if_pos ⟨rfl, hlast⟩]
          have g5 : ((p : Int) + 1 == (a.d.length : Int)) = true := beq_iff_eq.mpr hlast
          by_cases hp0 : p = 0
          · have q1 : decide ((0 : Int) < (p : Int)) = false := decide_eq_false (by omega)
            have q2 : decide (0 < p) = false := decide_eq_false (by omega)
            rw [q1, Bool.false_and]
            clear H hget e0 hlast hp0
            go_enter Tryd.func52, Tryd.ntmps52
            go_wp2
            go_ret
            exact ⟨rfl, rfl⟩
          · obtain ⟨d2, hget2⟩ : ∃ d, a.d[p - 1]? = some d := ⟨_, List.getElem?_eq_getElem (by omega)⟩
            have hd92 : d2 < 10 := hd d2 (List.mem_of_getElem? hget2)
            obtain ⟨_, hA, hcell2⟩ := H.digit hget2
            injection hA with hA
            subst hA
            have e3 : (p : Int) - 1 = ((p - 1 : Nat) : Int) := by omega
            rw [e3, dig_in hget2]
            have c1 : (0 : Int) ≤ ((p - 1 : Nat) : Int) := by omega
            have c2 : ((p - 1 : Nat) : Int) < (a.d.length : Int) := by omega
            have e4 : IntKind.i64.wrap ((p : Int) - 1) = ((p - 1 : Nat) : Int) := by rw [e2, e3]
            have q1 : decide ((0 : Int) < (p : Int)) = true := decide_eq_true (by omega)
            have q2 : decide (0 < p) = true := decide_eq_true (by omega)
            rw [q1, Bool.true_and]
            by_cases hpar : d2 % 2 = 0
            · have q3 : ((d2 : Int) % 2 != 0) = false := by rw [bne, beq_iff_eq.mpr (show (d2 : Int) % 2 = 0 by omega)]; rfl
              have q4 : decide (d2 % 2 ≠ 0) = false := by simp [hpar]
              rw [q4]
              clear H hget hget2 e0 hlast e2 e3 hpar hp0 q4
              go_enter Tryd.func52, Tryd.ntmps52
              go_wp2
              go_ret
              exact ⟨rfl, rfl⟩
            · have q3 : ((d2 : Int) % 2 != 0) = true := by rw [bne, beq_eq_false_iff_ne.mpr (show (d2 : Int) % 2 ≠ 0 by omega)]; rfl
              have q4 : decide (d2 % 2 ≠ 0) = true := by simp [hpar]
              rw [q4]
              clear H hget hget2 e0 hlast e2 e3 hpar hp0 q4
              go_enter Tryd.func52, Tryd.ntmps52
              go_wp2
              go_ret
              exact ⟨rfl, rfl⟩
        · rw [if_neg (fun h => hlast h.2)]
          have g5 : ((p : Int) + 1 == (a.d.length : Int)) = false := beq_eq_false_iff_ne.mpr hlast
          clear H hget e0 hlast
          go_enter Tryd.func52, Tryd.ntmps52
          go_wp2
          go_ret
          exact ⟨rfl, rfl⟩
      · rw [if_neg (fun h => h5 h.1)]
        have g4 : ((d : Int) == 5) = false := beq_eq_false_iff_ne.mpr (by omega)
        have g5 : decide ((5 : Int) ≤ (d : Int)) = decide (5 ≤ d) := by congr 1; exact propext (by omega)
        clear H hget e0
        go_enter Tryd.func52, Tryd.ntmps52
        go_wp2
        go_ret
        exact ⟨by simp, rfl⟩

theorem dig_lt {l : List Nat} (h : ∀ x ∈ l, x < 10) (i : Int) : dig l i < 10 := by
  by_cases hi : 0 ≤ i ∧ i < (l.length : Int)
  · obtain ⟨p, rfl⟩ : ∃ p : Nat, i = (p : Int) := ⟨i.toNat, by omega⟩
    have h1 : l[p]? = some l[p] := List.getElem?_eq_getElem (by omega)
    rw [dig_in h1]
    exact h _ (List.getElem_mem _)
  · rw [dig_out (by omega)]; omega
theorem wholeN_lt (l : List Nat) : ∀ n, wholeN l n < 18446744073709551616
  | 0 => by rw [wholeN]; omega
  | n + 1 => by rw [wholeN]; exact Nat.mod_lt _ (by omega)
set_option maxHeartbeats 4000000 in
set_option maxRecDepth 100000 in
theorem whole_ (w0 w : World) (B D : Nat) (a : Dc) (H : DecN w0 B w D a) (hd : ∀ x ∈ a.d, x < 10) (hl : a.d.length ≤ 1000000000) (hp : a.dp ≤ 1000000000) :
    Calls Tryd.prog 44 #[.pointer (some ⟨D, 0, none⟩)] w fun r w' => r = .returned (.int .u64 (wholeC a : Int)) ∧ w' = w := by
  have HH := Aside0.mk H
  obtain ⟨v, H⟩ := H
  have c1 := H.c1
  have HDG := Aside0.mk hd
  have HDL := Aside0.mk hl
  clear H hd hl
  go_enter Tryd.func44, Tryd.ntmps44
  go_wp2
  go_loopg [3, 4] a.dp.toNat (fun kq v3 v4 w' => ∃ (i : Nat), v3 = .int .u64 (wholeN a.d i : Int) ∧ v4 = .int .i64 (i : Int) ∧ Aside0 (i + kq = a.dp.toNat) ∧ Aside0 (w' = w))
  case atStart => exact ⟨0, rfl, rfl, ⟨by omega⟩, ⟨rfl⟩⟩
  case round =>
    obtain ⟨i, rfl, rfl, HI, HW⟩ := hrel
    obtain rfl := HW.out
    have hI := HI.out
    obtain ⟨n, hn⟩ : ∃ n, n = wholeN a.d i := ⟨_, rfl⟩
    have hn64 : n < 18446744073709551616 := by rw [hn]; exact wholeN_lt _ _
    rw [← hn]
    by_cases hgo : (i : Int) < a.dp
    · have g1 : decide ((i : Int) < a.dp) = true := decide_eq_true hgo
      obtain ⟨d, hdd⟩ : ∃ d, d = dig a.d (i : Int) := ⟨_, rfl⟩
      have hd9 : d < 10 := by rw [hdd]; exact dig_lt HDG.out _
      obtain ⟨m, hm⟩ : ∃ m, m = n * 10 % 18446744073709551616 := ⟨_, rfl⟩
      have e1 : IntKind.u64.wrap ((n : Int) * 10) = (m : Int) := by
        show ((n : Int) * 10) % 18446744073709551616 = _
        omega
      obtain ⟨q, hq⟩ : ∃ q, q = (m + d) % 18446744073709551616 := ⟨_, rfl⟩
      have e2 : IntKind.u64.wrap ((m : Int) + (d : Int)) = (q : Int) := by
        show ((m : Int) + (d : Int)) % 18446744073709551616 = _
        omega
      have e3 : IntKind.i64.wrap ((i : Int) + 1) = ((i + 1 : Nat) : Int) := by rw [Go.IntWalk.i64_in _ (by omega)]; omega
      have HDD := Aside0.mk hdd
      have HQ : Aside0 (q = wholeN a.d (i + 1)) := ⟨by rw [wholeN, ← hn, ← hm, ← hdd]; exact hq⟩
      clear hdd hm hq hn hI
      go_wp2_with ((go_at_call 51; go_loud (refine (digit_ w0 _ B D a (i : Int) HH.out).mono ?_; rintro e w4 ⟨rfl, rfl⟩; rw [← HDD.out])))
      go_roundg (gk - 1)
      case measure => have := HI.out; omega
      case rel => exact ⟨i + 1, by rw [← HQ.out], by go_num, ⟨by have := HI.out; omega⟩, ⟨rfl⟩⟩
    · have g1 : decide ((i : Int) < a.dp) = false := decide_eq_false hgo
      have hi : i = a.dp.toNat := by omega
      have HN : Aside0 (n = wholeN a.d a.dp.toNat) := ⟨by rw [hn, hi]⟩
      obtain ⟨b, hb⟩ : ∃ b, b = nearUpC a a.dp := ⟨_, rfl⟩
      have HB := Aside0.mk hb
      clear hn hi hI hb
      rcases b with _ | _
      · go_wp2_with ((go_at_call 52; go_loud (refine (nearUp_ w0 _ B D a a.dp HH.out HDG.out HDL.out).mono ?_; rintro e w4 ⟨rfl, rfl⟩; rw [← HB.out])))
        go_ret
        refine ⟨?_, rfl⟩
        rw [wholeC, ← HB.out, HN.out]
        rfl
      · obtain ⟨q, hq⟩ : ∃ q, q = (n + 1) % 18446744073709551616 := ⟨_, rfl⟩
        have e2 : IntKind.u64.wrap ((n : Int) + 1) = (q : Int) := by
          show ((n : Int) + 1) % 18446744073709551616 = _
          omega
        have HQ := Aside0.mk hq
        clear hq
        go_wp2_with ((go_at_call 52; go_loud (refine (nearUp_ w0 _ B D a a.dp HH.out HDG.out HDL.out).mono ?_; rintro e w4 ⟨rfl, rfl⟩; rw [← HB.out])))
        go_ret
        refine ⟨?_, rfl⟩
        rw [wholeC, ← HB.out, ← HN.out, if_pos rfl, ← HQ.out]
        rfl
end Go.Proofs.YtnmochachiieaaaDoor.Hand
