/- What lightstrconv.read reads, in plain. -/
import Derived.Test.YtnmochachiieaaaDoorHandPl
namespace Go.Proofs.YtnmochachiieaaaDoor.Hand
open Go.RowKit Go.Proofs.YtnmochachiieaaaDoorW.PrintWords Go.Proofs.YtnmochachiieaaaDoorW.PrintLast Go.Proofs.YtnmochachiieaaaDoorW.PrintMore Go.Proofs.YtnmochachiieaaaDoor.Base
open Go.Proofs.YtnmochachiieaaaDoor.Pf
set_option linter.unusedVariables false
set_option linter.unusedSimpArgs false

def lowB (c : UInt8) : UInt8 := c ||| 32
theorem lowB_nat (c : UInt8) : bits .or .u8 (c.toNat : Int) 32 = ((lowB c).toNat : Int) := by
  have h := u8_or_nat c.toNat 32 c.toNat_lt (by decide)
  have e : (lowB c).toNat = (c.toNat ||| 32) := by unfold lowB; rw [UInt8.toNat_or]; rfl
  rw [e]
  exact h
theorem lower_any (c : UInt8) (w : World) : Calls Tryd.prog 37 #[.int .u8 (c.toNat : Int)] w fun e w' => e = .returned (.int .u8 ((lowB c).toNat : Int)) ∧ w = w' := by
  go_enter Tryd.func37, Tryd.ntmps37
  go_wp2
  go_ret
  exact ⟨congrArg (fun x => Ending.returned (.int .u8 x)) (lowB_nat c), rfl⟩
/-- What the rounds over the digits hold. -/
structure Rs where
  a : Dc
  m : Nat
  sm : Bool
  dt : Bool
  ex : Int
def digV (hx : Bool) (q : UInt8) : Nat :=
  if 48 ≤ q.toNat ∧ q.toNat ≤ 57 then q.toNat - 48 else if hx = true ∧ 97 ≤ (lowB q).toNat ∧ (lowB q).toNat ≤ 102 then (lowB q).toNat - 87 else 16
def eatD (hx : Bool) (s : Rs) (d : Nat) : Rs :=
  if hx then
    if s.m / 1152921504606846976 = 0 then ⟨s.a, s.m * 16 ||| d, true, s.dt, if s.dt then s.ex - 4 else s.ex⟩
    else ⟨s.a, if d = 0 then s.m else s.m ||| 1, true, s.dt, if s.dt then s.ex else s.ex + 4⟩
  else if s.a.d ≠ [] ∨ d ≠ 0 then ⟨⟨s.a.d ++ [d], if s.dt then s.a.dp else s.a.dp + 1⟩, s.m, true, s.dt, s.ex⟩
  else ⟨⟨s.a.d, if s.dt then s.a.dp - 1 else s.a.dp⟩, s.m, true, s.dt, s.ex⟩
def stp (hx : Bool) (s : Rs) (q : UInt8) : Option Rs :=
  if q.toNat = 95 then some s else if q.toNat = 46 ∧ s.dt = false then some ⟨s.a, s.m, s.sm, true, s.ex⟩
  else if digV hx q = 16 then none else some (eatD hx s (digV hx q))
def rdF (hx : Bool) : Rs → List UInt8 → Rs × List UInt8
  | s, [] => (s, [])
  | s, q :: r => match stp hx s q with
    | none => (s, q :: r)
    | some s' => rdF hx s' r
structure RInv (s : Rs) (i : Nat) : Prop where
  m : s.m < 18446744073709551616
  a : s.a.d = [] ∨ Norm s.a
  l : s.a.d.length ≤ i
  p1 : -(i : Int) ≤ s.a.dp
  p2 : s.a.dp ≤ (i : Int)
  e1 : -(4 * (i : Int)) ≤ s.ex
  e2 : s.ex ≤ 4 * (i : Int)
theorem digV_lt {hx : Bool} {q : UInt8} (h : digV hx q ≠ 16) : digV hx q < 16 ∧ (hx = false → digV hx q < 10) := by
  unfold digV at h ⊢
  split
  · exact ⟨by omega, fun _ => by omega⟩
  · split
    · rename_i h1
      exact ⟨by omega, fun h2 => by rw [h2] at h1; exact absurd h1.1 (by simp)⟩
    · rename_i h1 h2
      rw [if_neg h1, if_neg h2] at h
      exact absurd rfl h
theorem RInv.mono {s : Rs} {i : Nat} (h : RInv s i) : RInv s (i + 1) :=
  ⟨h.m, h.a, by have := h.l; omega, by have := h.p1; omega, by have := h.p2; omega, by have := h.e1; omega, by have := h.e2; omega⟩
theorem RInv.eat {s : Rs} {i d : Nat} {hx : Bool} (h : RInv s i) (hd : d < 16) (hd2 : hx = false → d < 10) : RInv (eatD hx s d) (i + 1) := by
  have q1 := h.m; have q2 := h.l; have q3 := h.p1; have q4 := h.p2; have q5 := h.e1; have q6 := h.e2
  unfold eatD
  cases hx
  · rw [if_neg (by decide)]
    by_cases hc : s.a.d ≠ [] ∨ d ≠ 0
    · rw [if_pos hc]
      refine ⟨q1, ?_, by simp; omega, by simp only; split <;> omega, by simp only; split <;> omega, by simp only; omega, by simp only; omega⟩
      right
      rcases h.a with h0 | ⟨h1, d1, r, h2, h3⟩
      · have hdn : d ≠ 0 := hc.resolve_left (fun x => x h0)
        refine ⟨?_, d, [], by simp [h0], by omega⟩
        intro x hx
        simp only [h0, List.nil_append, List.mem_singleton] at hx
        subst hx
        exact hd2 rfl
      · refine ⟨?_, d1, r ++ [d], by simp [h2], h3⟩
        intro x hx
        rcases List.mem_append.1 hx with hx | hx
        · exact h1 x hx
        · simp only [List.mem_singleton] at hx
          subst hx
          exact hd2 rfl
    · rw [if_neg hc]
      have h0 : s.a.d = [] := Classical.byContradiction fun x => hc (.inl x)
      exact ⟨q1, .inl h0, by simp only; omega, by simp only; split <;> omega, by simp only; split <;> omega, by simp only; omega, by simp only; omega⟩
  · rw [if_pos rfl]
    by_cases hm : s.m / 1152921504606846976 = 0
    · rw [if_pos hm]
      have hm2 : s.m * 16 ||| d < 2 ^ 64 := Nat.or_lt_two_pow (by omega) (by omega)
      exact ⟨by simpa using hm2, h.a, by simp only; omega, by simp only; omega, by simp only; omega, by simp only; split <;> omega, by simp only; split <;> omega⟩
    · rw [if_neg hm]
      have hm2 : s.m ||| 1 < 2 ^ 64 := Nat.or_lt_two_pow (by omega) (by omega)
      exact ⟨by simp only; split; exact q1; simpa using hm2, h.a, by simp only; omega, by simp only; omega, by simp only; omega, by simp only; split <;> omega, by simp only; split <;> omega⟩
theorem RInv.stp {s s' : Rs} {i : Nat} {hx : Bool} {q : UInt8} (h : RInv s i) (hs : stp hx s q = some s') : RInv s' (i + 1) := by
  unfold Hand.stp at hs
  split at hs
  · cases hs; exact h.mono
  · split at hs
    · cases hs
      exact ⟨h.m, h.a, by have := h.l; simp only; omega, by have := h.p1; simp only; omega, by have := h.p2; simp only; omega, by have := h.e1; simp only; omega, by have := h.e2; simp only; omega⟩
    · split at hs
      · cases hs
      · rename_i hd
        cases hs
        obtain ⟨h1, h2⟩ := digV_lt hd
        exact h.eat h1 h2
/-- The exponent's digits. -/
def exL : Int → List UInt8 → Int × List UInt8
  | e, [] => (e, [])
  | e, q :: r => if 48 ≤ q.toNat ∧ q.toNat ≤ 57 then exL (if e < 10000 then e * 10 + ((q.toNat : Int) - 48) else e) r else if q.toNat = 95 then exL e r else (e, q :: r)
/-- The exponent's digits, and its sign. -/
def tailH (ex : Int) (dn : Bool) : List UInt8 → Option (Int × List UInt8)
  | [] => none
  | x :: r => if 48 ≤ x.toNat ∧ x.toNat ≤ 57 then some (ex + (if dn then -(exL 0 (x :: r)).1 else (exL 0 (x :: r)).1), (exL 0 (x :: r)).2) else none
/-- The exponent behind its mark. -/
def tailG (ex : Int) : List UInt8 → Option (Int × List UInt8)
  | [] => none
  | q :: r => tailH ex (decide (q.toNat = 45)) (if q.toNat = 43 ∨ q.toNat = 45 then r else q :: r)
/-- The exponent, if there is one: none: no number. -/
def tailF (hx : Bool) (ex : Int) : List UInt8 → Option (Int × List UInt8)
  | [] => if hx then none else some (ex, [])
  | q :: r => if (lowB q).toNat = (if hx then 112 else 101) then tailG ex r else if hx then none else some (ex, q :: r)
theorem exL_dig {e : Int} {q : UInt8} {r : List UInt8} (h : 48 ≤ q.toNat ∧ q.toNat ≤ 57) : exL e (q :: r) = exL (if e < 10000 then e * 10 + ((q.toNat : Int) - 48) else e) r := by rw [exL, if_pos h]
theorem exL_us {e : Int} {q : UInt8} {r : List UInt8} (h : q.toNat = 95) : exL e (q :: r) = exL e r := by rw [exL, if_neg (by omega), if_pos h]
theorem exL_stop {e : Int} {q : UInt8} {r : List UInt8} (h : ¬ (48 ≤ q.toNat ∧ q.toNat ≤ 57)) (h2 : ¬ q.toNat = 95) : exL e (q :: r) = (e, q :: r) := by rw [exL, if_neg h, if_neg h2]
end Go.Proofs.YtnmochachiieaaaDoor.Hand
