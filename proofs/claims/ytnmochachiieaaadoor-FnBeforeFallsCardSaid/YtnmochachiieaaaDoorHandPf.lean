/- Decimals of any number of digits in plain: halved, doubled, shifted, until a float's bits can be read off; that all of it ends. No program in sight. -/
import Derived.Test.YtnmochachiieaaaDoorProg
namespace Go.Proofs.YtnmochachiieaaaDoor.Pf
/-! ### decimals by their digits, in plain -/
/-- A number's digits, the lowest first. -/
def outD (n : Nat) : List Nat := if h : n = 0 then [] else n % 10 :: outD (n / 10)
termination_by n
decreasing_by omega
theorem outD_zero : outD 0 = [] := by unfold outD; rfl
theorem outD_pos {n : Nat} (h : n ≠ 0) : outD n = n % 10 :: outD (n / 10) := by rw [outD, dif_neg h]
/-- The digits (the lowest first) of n and 2 to the k times a number. -/
def dblL (k : Nat) : Nat → List Nat → List Nat
  | n, [] => outD n
  | n, d :: r => (n + d * 2 ^ k) % 10 :: dblL k ((n + d * 2 ^ k) / 10) r
def trimL (l : List Nat) : List Nat := (l.reverse.dropWhile (· == 0)).reverse
structure Dc where
  d : List Nat
  dp : Int
def trimC (a : Dc) : Dc := ⟨trimL a.d, if trimL a.d = [] then 0 else a.dp⟩
def dblC (a : Dc) (k : Nat) : Dc := trimC ⟨(dblL k 0 a.d.reverse).reverse, a.dp + ((dblL k 0 a.d.reverse).length - a.d.length)⟩
/-- The digits that make a quotient's first digit. -/
def hdF (k : Nat) : Nat → Nat → Nat → List Nat → Option (Option (Nat × Nat × List Nat))
  | 0, _, _, _ => none
  | f + 1, n, i, r => if n / 2 ^ k = 0 then (if r = [] ∧ n = 0 then some none else hdF k f (n * 10 + r.headD 0) (i + 1) r.tail) else some (some (n, i, r))
/-- A quotient's digits. -/
def qtF (k : Nat) : Nat → Nat → List Nat → Option (List Nat)
  | 0, _, _ => none
  | f + 1, n, r => if r = [] ∧ n = 0 then some [] else (qtF k f (n % 2 ^ k * 10 + r.headD 0) r.tail).map (n / 2 ^ k :: ·)
def halfF (f : Nat) (a : Dc) (k : Nat) : Option Dc :=
  match hdF k 62 0 0 a.d with
  | none => none
  | some none => some ⟨[], 0⟩
  | some (some (n, i, r)) => (qtF k f n r).map fun o => trimC ⟨o, a.dp - ((i : Int) - 1)⟩

def valL : List Nat → Nat
  | [] => 0
  | d :: r => d + 10 * valL r
theorem valL_append : ∀ (a b : List Nat), valL (a ++ b) = valL a + 10 ^ a.length * valL b
  | [], b => by simp [valL]
  | x :: a, b => by
    rw [List.cons_append, valL, valL, valL_append a b, List.length_cons, Nat.pow_succ, Nat.mul_add, ← Nat.mul_assoc, Nat.mul_comm 10 (10 ^ a.length), Nat.add_assoc]
theorem valL_lt : ∀ {l : List Nat}, (∀ x ∈ l, x < 10) → valL l < 10 ^ l.length
  | [], _ => by simp [valL]
  | x :: l, h => by
    have h1 := h x (by simp)
    have h2 := valL_lt (l := l) (fun y hy => h y (by simp [hy]))
    rw [valL, List.length_cons, Nat.pow_succ]
    omega
theorem valL_outD (n : Nat) : valL (outD n) = n := by
  induction n using Nat.strongRecOn with
  | ind n ih =>
    by_cases h : n = 0
    · rw [h, outD_zero]; rfl
    · rw [outD_pos h, valL, ih (n / 10) (by omega)]
      omega
theorem outD_lt (n : Nat) : ∀ x ∈ outD n, x < 10 := by
  induction n using Nat.strongRecOn with
  | ind n ih =>
    by_cases h : n = 0
    · rw [h, outD_zero]; simp
    · rw [outD_pos h]
      intro x hx
      rcases List.mem_cons.1 hx with rfl | hx
      · omega
      · exact ih (n / 10) (by omega) x hx
/-- The last digit of a list, if it is none but a nought it is none. -/
def TopPos (l : List Nat) : Prop := ∃ l0 t, l = l0 ++ [t] ∧ 0 < t
theorem TopPos.cons {l : List Nat} (h : TopPos l) (x : Nat) : TopPos (x :: l) := by
  obtain ⟨l0, t, rfl, ht⟩ := h
  exact ⟨x :: l0, t, rfl, ht⟩
theorem outD_top {n : Nat} (hn : n ≠ 0) : TopPos (outD n) := by
  induction n using Nat.strongRecOn with
  | ind n ih =>
    rw [outD_pos hn]
    by_cases h : n / 10 = 0
    · rw [h, outD_zero]
      exact ⟨[], n % 10, rfl, by omega⟩
    · exact (ih (n / 10) (by omega) h).cons _
theorem dblL_val (k : Nat) : ∀ (l : List Nat) (n : Nat), valL (dblL k n l) = n + 2 ^ k * valL l
  | [], n => by simp [dblL, valL, valL_outD]
  | d :: r, n => by
    rw [dblL, valL, dblL_val k r, valL]
    have h1 : (n + d * 2 ^ k) % 10 + 10 * ((n + d * 2 ^ k) / 10) = n + d * 2 ^ k := Nat.mod_add_div _ _
    have h2 : 2 ^ k * (d + 10 * valL r) = d * 2 ^ k + 10 * (2 ^ k * valL r) := by
      rw [Nat.mul_add, Nat.mul_comm d]
      congr 1
      rw [← Nat.mul_assoc, ← Nat.mul_assoc, Nat.mul_comm (2 ^ k) 10]
    omega
theorem dblL_lt (k : Nat) : ∀ (l : List Nat) (n : Nat), ∀ x ∈ dblL k n l, x < 10
  | [], n => outD_lt n
  | d :: r, n => by
    intro x hx
    rcases List.mem_cons.1 hx with rfl | hx
    · omega
    · exact dblL_lt k r _ x hx
theorem dblL_top (k : Nat) : ∀ {l : List Nat} (n : Nat), TopPos l → TopPos (dblL k n l)
  | [], n, h => by obtain ⟨l0, t, h, _⟩ := h; simp at h
  | [d], n, h => by
    obtain ⟨l0, t, h, ht⟩ := h
    have hd : d = t := by
      rcases l0 with _ | ⟨y, l0⟩
      · simpa using h
      · simp at h
    subst hd
    have hp : 0 < d * 2 ^ k := Nat.mul_pos ht (Nat.pow_pos (by omega))
    rw [dblL, dblL]
    by_cases h0 : (n + d * 2 ^ k) / 10 = 0
    · rw [h0, outD_zero]
      exact ⟨[], _, rfl, by omega⟩
    · exact (outD_top h0).cons _
  | d :: d' :: r, n, h => by
    rw [dblL]
    refine (dblL_top k _ ?_).cons _
    obtain ⟨l0, t, h, ht⟩ := h
    rcases l0 with _ | ⟨y, l0⟩
    · simp at h
    · exact ⟨l0, t, by simpa using (List.cons.inj h).2, ht⟩
theorem dblL_len (k : Nat) : ∀ (l : List Nat) (n : Nat), l.length ≤ (dblL k n l).length
  | [], n => Nat.zero_le _
  | d :: r, n => by simp [dblL]; exact dblL_len k r _
theorem outD_len : ∀ (f n : Nat), n < 10 ^ f → (outD n).length ≤ f
  | 0, n, h => by
    have : n = 0 := by simpa using h
    rw [this, outD_zero]; simp
  | f + 1, n, h => by
    by_cases h0 : n = 0
    · rw [h0, outD_zero]; simp
    · rw [outD_pos h0, List.length_cons]
      have := outD_len f (n / 10) (by rw [Nat.pow_succ] at h; omega)
      omega
/-- The carry is small: at most 2 to the k. -/
theorem carry_le {k n d : Nat} (hn : n ≤ 2 ^ k) (hd : d < 10) : (n + d * 2 ^ k) / 10 ≤ 2 ^ k := by
  have : d * 2 ^ k ≤ 9 * 2 ^ k := Nat.mul_le_mul_right _ (by omega)
  omega
theorem dblL_len2 (k : Nat) (hk : k ≤ 60) : ∀ (l : List Nat) (n : Nat), (∀ x ∈ l, x < 10) → n ≤ 2 ^ k → (dblL k n l).length ≤ l.length + 20
  | [], n, _, hn => by
    have h1 : 2 ^ k ≤ 2 ^ 60 := Nat.pow_le_pow_right (by omega) hk
    have := outD_len 20 n (by have : (2 : Nat) ^ 60 < 10 ^ 20 := by decide
                              omega)
    simpa [dblL] using this
  | d :: r, n, h, hn => by
    have := dblL_len2 k hk r ((n + d * 2 ^ k) / 10) (fun x hx => h x (by simp [hx])) (carry_le hn (h d (by simp)))
    simp [dblL]
    omega

/-- Digits below ten, the first one not 0. -/
def Norm (a : Dc) : Prop := (∀ x ∈ a.d, x < 10) ∧ ∃ d1 r, a.d = d1 :: r ∧ 0 < d1
def hd1 (a : Dc) : Nat := a.d.headD 0
theorem trimL_mem {l : List Nat} {x : Nat} (h : x ∈ trimL l) : x ∈ l := by
  unfold trimL at h
  rw [List.mem_reverse] at h
  exact List.mem_reverse.1 ((List.dropWhile_sublist _).subset h)
theorem trimL_len (l : List Nat) : (trimL l).length ≤ l.length := by
  unfold trimL
  rw [List.length_reverse]
  have := (List.dropWhile_sublist (· == 0) (l := l.reverse)).length_le
  simpa using this
theorem trimL_cons {x : Nat} (hx : 0 < x) (l : List Nat) : trimL (x :: l) = x :: trimL l := by
  unfold trimL
  rw [List.reverse_cons, List.dropWhile_append]
  split
  · rename_i h
    have h' : List.dropWhile (fun x => x == 0) l.reverse = [] := by simpa using h
    rw [h']
    have hne : (x == 0) = false := by simp; omega
    simp [hne]
  · simp
theorem Norm.trim {a : Dc} (h : Norm a) : Norm (trimC a) ∧ (trimC a).dp = a.dp ∧ hd1 (trimC a) = hd1 a ∧ (trimC a).d.length ≤ a.d.length := by
  obtain ⟨h1, d1, r, hd, hp⟩ := h
  have e : trimL a.d = d1 :: trimL r := by rw [hd, trimL_cons hp]
  refine ⟨⟨fun x hx => h1 x (trimL_mem hx), d1, trimL r, e, hp⟩, ?_, ?_, trimL_len _⟩
  · show (if trimL a.d = [] then 0 else a.dp) = a.dp
    rw [e]; simp
  · show (trimL a.d).headD 0 = a.d.headD 0
    rw [e, hd]; rfl
theorem Norm.dbl {a : Dc} (h : Norm a) (k : Nat) (hk : k ≤ 60) : Norm (dblC a k) ∧ (dblC a k).d.length ≤ a.d.length + 20 ∧ (a.dp ≤ (dblC a k).dp ∧ (dblC a k).dp ≤ a.dp + 20) ∧ ((dblC a k).dp = a.dp → 2 ^ k * hd1 a ≤ hd1 (dblC a k)) ∧ (2 ^ k * (hd1 a + 1) ≤ 10 → (dblC a k).dp = a.dp) := by
  obtain ⟨h1, d1, r, hd, hp⟩ := h
  have hrev : a.d.reverse = r.reverse ++ [d1] := by rw [hd]; simp
  have htop : TopPos a.d.reverse := ⟨r.reverse, d1, hrev, hp⟩
  obtain ⟨o0, t, ho, ht⟩ := dblL_top k 0 htop
  have hlen := dblL_len k a.d.reverse 0
  have hlen2 := dblL_len2 k hk a.d.reverse 0 (fun x hx => h1 x (List.mem_reverse.1 hx)) (Nat.zero_le _)
  rw [List.length_reverse] at hlen hlen2
  have hlt := dblL_lt k a.d.reverse 0
  have hval := dblL_val k a.d.reverse 0
  rw [ho] at hval hlt
  have hN : Norm ⟨(dblL k 0 a.d.reverse).reverse, a.dp + ((dblL k 0 a.d.reverse).length - a.d.length)⟩ := by
    rw [ho]
    refine ⟨fun x hx => hlt x (List.mem_reverse.1 hx), t, o0.reverse, by simp, ht⟩
  obtain ⟨g1, g2, g3, g4⟩ := hN.trim
  rw [List.length_reverse] at g4
  refine ⟨g1, Nat.le_trans g4 hlen2, ?_, ?_, ?_⟩
  · rw [show (dblC a k).dp = _ from g2]
    dsimp only
    omega
  · intro e
    rw [show (dblC a k).dp = _ from g2] at e
    dsimp only at e
    have hl : (dblL k 0 a.d.reverse).length = a.d.length := by omega
    rw [show hd1 (dblC a k) = _ from g3]
    have e1 : hd1 ⟨(dblL k 0 a.d.reverse).reverse, a.dp + ((dblL k 0 a.d.reverse).length - a.d.length)⟩ = t := by
      rw [ho]; simp [hd1]
    have e2 : hd1 a = d1 := by rw [hd1, hd]; rfl
    rw [e1, e2]
    rw [ho, List.length_append, List.length_singleton, hd, List.length_cons] at hl
    have hl0 : o0.length = r.length := by omega
    rw [hrev, valL_append, valL_append, List.length_reverse, hl0] at hval
    simp only [valL, Nat.mul_zero, Nat.add_zero, Nat.zero_add] at hval
    have hv0 := valL_lt (l := o0) (fun x hx => hlt x (by simp [hx]))
    rw [hl0] at hv0
    have hv : 2 ^ k * (10 ^ r.length * d1) ≤ valL o0 + 10 ^ r.length * t := by rw [hval]; exact Nat.mul_le_mul_left _ (Nat.le_add_left _ _)
    rcases Nat.lt_or_ge t (2 ^ k * d1) with hlt2 | hge
    · exfalso
      have : 10 ^ r.length * (t + 1) ≤ 10 ^ r.length * (2 ^ k * d1) := Nat.mul_le_mul_left _ hlt2
      have e3 : 10 ^ r.length * (2 ^ k * d1) = 2 ^ k * (10 ^ r.length * d1) := by
        rw [← Nat.mul_assoc, ← Nat.mul_assoc, Nat.mul_comm (10 ^ r.length)]
      rw [Nat.mul_add, Nat.mul_one] at this
      omega
    · exact hge
  · intro e
    rw [show (dblC a k).dp = _ from g2]
    dsimp only
    have e2 : hd1 a = d1 := by rw [hd1, hd]; rfl
    rw [e2] at e
    have hl : (dblL k 0 a.d.reverse).length = o0.length + 1 := by rw [ho]; simp
    have hla : a.d.length = r.length + 1 := by rw [hd]; simp
    have hv1 : valL (o0 ++ [t]) < 10 ^ (r.length + 1) := by
      have hvr : valL a.d.reverse < 10 ^ r.length * (d1 + 1) := by
        have hr := valL_lt (l := r.reverse) (fun x hx => h1 x (by rw [hd]; exact List.mem_cons_of_mem _ (List.mem_reverse.1 hx)))
        rw [List.length_reverse] at hr
        rw [hrev, valL_append, List.length_reverse, Nat.mul_add, Nat.mul_one]
        simp only [valL, Nat.mul_zero, Nat.add_zero]
        omega
      have : 2 ^ k * valL a.d.reverse < 2 ^ k * (10 ^ r.length * (d1 + 1)) := Nat.mul_lt_mul_of_pos_left hvr (Nat.pow_pos (by omega))
      have e3 : 2 ^ k * (10 ^ r.length * (d1 + 1)) = 10 ^ r.length * (2 ^ k * (d1 + 1)) := by rw [← Nat.mul_assoc, ← Nat.mul_assoc, Nat.mul_comm (2 ^ k)]
      have e4 : 10 ^ r.length * (2 ^ k * (d1 + 1)) ≤ 10 ^ r.length * 10 := Nat.mul_le_mul_left _ e
      rw [hval, Nat.zero_add, Nat.pow_succ]
      omega
    have hv2 : 10 ^ o0.length ≤ valL (o0 ++ [t]) := by
      rw [valL_append]
      simp only [valL, Nat.mul_zero, Nat.add_zero]
      have : 10 ^ o0.length * 1 ≤ 10 ^ o0.length * t := Nat.mul_le_mul_left _ ht
      omega
    have : o0.length < r.length + 1 := by
      rcases Nat.lt_or_ge o0.length (r.length + 1) with h | h
      · exact h
      · have := Nat.pow_le_pow_right (n := 10) (by omega) h
        omega
    omega

/-! ### halves -/
theorem headD_lt {r : List Nat} (h : ∀ x ∈ r, x < 10) : r.headD 0 < 10 := by
  cases r with
  | nil => simp
  | cons x r => exact h x (by simp)
theorem tail_lt {r : List Nat} (h : ∀ x ∈ r, x < 10) : ∀ x ∈ r.tail, x < 10 := fun x hx => h x (List.mem_of_mem_tail hx)
/-- From a number above 0 on the first digit comes. -/
theorem hd_pos (k : Nat) : ∀ (f n i : Nat) (r : List Nat), 0 < n → n < 10 * 2 ^ k → (∀ x ∈ r, x < 10) → 2 ^ k < n * 2 ^ f →
    ∃ n' i', hdF k (f + 1) n i r = some (some (n', i', r.drop (i' - i))) ∧ 2 ^ k ≤ n' ∧ n' < 10 * 2 ^ k ∧ i ≤ i' ∧ i' ≤ i + f ∧ (i' = i → n' = n) ∧ (n < 2 ^ k → i < i')
  | 0, n, i, r, h0, h1, h2, h3 => by
    rw [Nat.pow_zero, Nat.mul_one] at h3
    have : n / 2 ^ k ≠ 0 := by
      have := (Nat.div_pos_iff (a := n) (b := 2 ^ k)).2 ⟨Nat.pow_pos (by omega), by omega⟩
      omega
    refine ⟨n, i, by simp [hdF, this], by omega, h1, by omega, by omega, fun _ => rfl, by omega⟩
  | f + 1, n, i, r, h0, h1, h2, h3 => by
    by_cases hz : n / 2 ^ k = 0
    · have hlt : n < 2 ^ k := by
        rcases Nat.lt_or_ge n (2 ^ k) with h | h
        · exact h
        · have := (Nat.div_pos_iff (a := n) (b := 2 ^ k)).2 ⟨Nat.pow_pos (by omega), h⟩
          omega
      have hh := headD_lt h2
      have h4 : 2 ^ k < (n * 10 + r.headD 0) * 2 ^ f := by
        rw [Nat.pow_succ] at h3
        have : n * (2 ^ f * 2) ≤ (n * 10 + r.headD 0) * 2 ^ f := by
          rw [← Nat.mul_assoc, Nat.mul_right_comm]
          exact Nat.mul_le_mul_right _ (by omega)
        omega
      obtain ⟨n', i', e, a1, a2, a3, a4, a5, a6⟩ := hd_pos k f (n * 10 + r.headD 0) (i + 1) r.tail (by omega) (by omega) (tail_lt h2) h4
      refine ⟨n', i', ?_, a1, a2, by omega, by omega, by omega, by omega⟩
      rw [hdF, if_pos hz, if_neg (by omega), e, List.drop_tail]
      rw [show i' - (i + 1) + 1 = i' - i by omega]
    · have : 2 ^ k ≤ n := ((Nat.div_pos_iff (a := n) (b := 2 ^ k)).1 (Nat.pos_of_ne_zero hz)).2
      refine ⟨n, i, by rw [hdF, if_neg hz]; simp, this, h1, by omega, by omega, fun _ => rfl, by omega⟩
/-- Behind the digits a quotient ends. -/
theorem qt_nil (k : Nat) : ∀ (f j m : Nat), j ≤ k → k - j + 2 ≤ f → m * 2 ^ j < 10 * 2 ^ k → ∃ o, qtF k f (m * 2 ^ j) [] = some o ∧ (∀ x ∈ o, x < 10) ∧ o.length ≤ k - j + 2
  | 0, j, m, h1, h2, _ => by omega
  | f + 1, j, m, h1, h2, h3 => by
    rw [qtF]
    by_cases h0 : m * 2 ^ j = 0
    · exact ⟨[], by rw [if_pos ⟨rfl, h0⟩], by simp, by simp⟩
    · rw [if_neg (fun h => h0 h.2)]
      have hd : m * 2 ^ j / 2 ^ k < 10 := Nat.div_lt_of_lt_mul (by rw [Nat.mul_comm (2 ^ k)]; exact h3)
      by_cases hj : j = k
      · subst hj
        rw [Nat.mul_mod_left]
        obtain ⟨g, rfl⟩ : ∃ g, f = g + 1 := ⟨f - 1, by omega⟩
        refine ⟨[m * 2 ^ j / 2 ^ j], by simp [qtF], ?_, by simp⟩
        simp only [List.mem_singleton, forall_eq]
        exact hd
      · have e : m * 2 ^ j % 2 ^ k = (m % 2 ^ (k - j)) * 2 ^ j := by
          have : 2 ^ k = 2 ^ (k - j) * 2 ^ j := by rw [← Nat.pow_add]; congr 1; omega
          rw [this, Nat.mul_mod_mul_right]
        have e2 : m * 2 ^ j % 2 ^ k * 10 + ([] : List Nat).headD 0 = (m % 2 ^ (k - j) * 5) * 2 ^ (j + 1) := by
          rw [e, Nat.pow_succ]
          simp only [List.headD_nil, Nat.add_zero]
          rw [show (10 : Nat) = 5 * 2 by rfl]
          ac_rfl
        have hlt : m * 2 ^ j % 2 ^ k < 2 ^ k := Nat.mod_lt _ (Nat.pow_pos (by omega))
        obtain ⟨o, ho, h4, h5⟩ := qt_nil k f (j + 1) (m % 2 ^ (k - j) * 5) (by omega) (by omega) (by rw [← e2]; simp only [List.headD_nil]; omega)
        rw [e2, List.tail_nil, ho]
        exact ⟨_, rfl, by simp only [List.mem_cons, forall_eq_or_imp]; exact ⟨hd, h4⟩, by simp; omega⟩
theorem qt_all (k : Nat) : ∀ (r : List Nat) (f n : Nat), r.length + k + 2 ≤ f → (∀ x ∈ r, x < 10) → n < 10 * 2 ^ k → ∃ o, qtF k f n r = some o ∧ (∀ x ∈ o, x < 10) ∧ o.length ≤ r.length + k + 2
  | [], f, n, h1, _, h3 => by
    obtain ⟨o, ho, h⟩ := qt_nil k f 0 n (by omega) (by simpa using h1) (by simpa using h3)
    rw [Nat.pow_zero, Nat.mul_one] at ho
    exact ⟨o, ho, h.1, by have := h.2; simp; omega⟩
  | d :: r, f, n, h1, h2, h3 => by
    obtain ⟨g, rfl⟩ : ∃ g, f = g + 1 := ⟨f - 1, by omega⟩
    have hlt : n % 2 ^ k < 2 ^ k := Nat.mod_lt _ (Nat.pow_pos (by omega))
    have hd := h2 d (by simp)
    obtain ⟨o, ho, h4, h5⟩ := qt_all k r g (n % 2 ^ k * 10 + d) (by simp at h1; omega) (fun x hx => h2 x (by simp [hx])) (by omega)
    refine ⟨n / 2 ^ k :: o, ?_, ?_, by simp; omega⟩
    · rw [qtF, if_neg (by simp)]
      simp only [List.headD_cons, List.tail_cons]
      rw [ho]; rfl
    · simp only [List.mem_cons, forall_eq_or_imp]
      exact ⟨Nat.div_lt_of_lt_mul (by rw [Nat.mul_comm (2 ^ k)]; exact h3), h4⟩
theorem qt_first {k f n : Nat} {r o : List Nat} (h : qtF k f n r = some o) (hn : 2 ^ k ≤ n) : ∃ o', o = n / 2 ^ k :: o' := by
  cases f with
  | zero => simp [qtF] at h
  | succ f =>
    have hp : 0 < 2 ^ k := Nat.pow_pos (by omega)
    rw [qtF, if_neg (by omega)] at h
    obtain ⟨o', _, rfl⟩ := Option.map_eq_some_iff.1 h
    exact ⟨o', rfl⟩
/-- Halving, by 1 to 59: it ends; the first digit stays above 0. -/
theorem Norm.half {a : Dc} (h : Norm a) {k f : Nat} (hk0 : 1 ≤ k) (hk : k ≤ 59) (hf : a.d.length + 70 ≤ f) :
    ∃ b, halfF f a k = some b ∧ Norm b ∧ b.d.length ≤ a.d.length + 60 ∧ b.dp ≤ a.dp ∧ a.dp - 70 ≤ b.dp ∧ (b.dp = a.dp → 2 ^ k ≤ hd1 a ∧ hd1 b = hd1 a / 2 ^ k) := by
  obtain ⟨h1, d1, r, hd, hp⟩ := h
  have h10 : d1 < 10 := h1 d1 (by rw [hd]; simp)
  have hr : ∀ x ∈ r, x < 10 := fun x hx => h1 x (by rw [hd]; simp [hx])
  rw [hd, List.length_cons] at hf
  have hp2 : 0 < 2 ^ k := Nat.pow_pos (by omega)
  have hk1 : 2 ^ 1 ≤ 2 ^ k := Nat.pow_le_pow_right (by omega) hk0
  have hkg : 2 ^ k < 2 ^ 60 := Nat.pow_lt_pow_of_lt (by omega) (by omega)
  have hd1g : 2 ^ k < d1 * 2 ^ 60 := Nat.lt_of_lt_of_le hkg (Nat.le_mul_of_pos_left _ hp)
  obtain ⟨n', i', e, a1, a2, a3, a4, a5, a6⟩ := hd_pos k 60 d1 1 r hp (by omega) hr hd1g
  obtain ⟨o, ho, o1, o2⟩ := qt_all k (r.drop (i' - 1)) f n' (by rw [List.length_drop]; omega) (fun x hx => hr x (List.mem_of_mem_drop hx)) a2
  obtain ⟨o', rfl⟩ := qt_first ho a1
  have hz0 : 0 / 2 ^ k = 0 := Nat.zero_div _
  have hhd : hdF k 62 0 0 a.d = some (some (n', i', r.drop (i' - 1))) := by
    rw [hd, hdF, if_pos hz0, if_neg (by simp)]
    simp only [Nat.zero_mul, List.headD_cons, Nat.zero_add, List.tail_cons]
    exact e
  have hpos : 0 < n' / 2 ^ k := (Nat.div_pos_iff (a := n') (b := 2 ^ k)).2 ⟨hp2, a1⟩
  have hN : Norm ⟨n' / 2 ^ k :: o', a.dp - ((i' : Int) - 1)⟩ := ⟨o1, _, _, rfl, hpos⟩
  obtain ⟨g1, g2, g3, g4⟩ := hN.trim
  have hres : halfF f a k = some (trimC ⟨n' / 2 ^ k :: o', a.dp - ((i' : Int) - 1)⟩) := by
    unfold halfF
    rw [hhd]
    simp only
    rw [ho]
    rfl
  have hlen : (n' / 2 ^ k :: o').length ≤ a.d.length + 60 := by
    rw [List.length_drop] at o2
    rw [hd, List.length_cons (a := d1)]
    omega
  refine ⟨_, hres, g1, Nat.le_trans g4 hlen, ?_, ?_, ?_⟩
  · rw [g2]; dsimp only; omega
  · rw [g2]; dsimp only; omega
  · intro e1
    rw [g2] at e1
    dsimp only at e1
    have hi : i' = 1 := by omega
    have hn : n' = d1 := a5 hi
    have e2 : hd1 a = d1 := by rw [hd1, hd]; rfl
    rw [e2, g3, ← hn]
    exact ⟨a1, rfl⟩

/-! ### shifts -/
/-- Doubled by 59 while more than 59 is left. -/
def upF : Nat → Dc → Nat → Option (Dc × Nat)
  | 0, _, _ => none
  | f + 1, a, k => if 59 < k then upF f (dblC a 59) (k - 59) else some (a, k)
/-- Halved likewise; F: what each half may take. -/
def downF (F : Nat) : Nat → Dc → Nat → Option (Dc × Nat)
  | 0, _, _ => none
  | f + 1, a, k => if 59 < k then (halfF F a 59).bind fun b => downF F f b (k - 59) else some (a, k)
/-- Shifted by k. -/
def shiftF (F G : Nat) (a : Dc) (k : Int) : Option Dc :=
  if 0 ≤ k then (upF (G + 1) a k.toNat).map fun p => if p.2 = 0 then p.1 else dblC p.1 p.2
  else (downF F (G + 1) a (-k).toNat).bind fun p => if p.2 = 0 then some p.1 else halfF F p.1 p.2
theorem upF_all : ∀ (f : Nat) {a : Dc} (k : Nat), Norm a → k ≤ 59 * f → ∃ b j, upF (f + 1) a k = some (b, j) ∧ Norm b ∧ b.d.length ≤ a.d.length + 20 * f ∧ j ≤ 59 ∧ a.dp ≤ b.dp ∧ b.dp ≤ a.dp + 20 * f
  | 0, a, k, h, hk => ⟨a, k, by rw [upF, if_neg (by omega)], h, by omega, by omega, by omega, by omega⟩
  | f + 1, a, k, h, hk => by
    by_cases hlt : 59 < k
    · obtain ⟨h1, h2, h3, h4, _⟩ := h.dbl 59 (by omega)
      obtain ⟨b, j, e, g1, g2, g3, g4, g5⟩ := upF_all f (k - 59) h1 (by omega)
      exact ⟨b, j, by rw [upF, if_pos hlt, e], g1, by omega, g3, by omega, by omega⟩
    · exact ⟨a, k, by rw [upF, if_neg hlt], h, by omega, by omega, by omega, by omega⟩
/-- A decimal whose digits are at most m. -/
theorem downF_all (F : Nat) : ∀ (f : Nat) {a : Dc} (k : Nat), Norm a → k ≤ 59 * f → a.d.length + 70 * (f + 1) ≤ F → ∃ b j, downF F (f + 1) a k = some (b, j) ∧ Norm b ∧ j ≤ 59 ∧ b.dp ≤ a.dp ∧ a.dp - 70 * f ≤ b.dp ∧ b.d.length ≤ a.d.length + 60 * f
  | 0, a, k, h, hk, _ => ⟨a, k, by rw [downF, if_neg (by omega)], h, by omega, by omega, by omega, by omega⟩
  | f + 1, a, k, h, hk, hF => by
    by_cases hlt : 59 < k
    · obtain ⟨b, e, n1, n2, n3, n4, _⟩ := h.half (k := 59) (f := F) (by omega) (by omega) (by omega)
      obtain ⟨c, j, e2, m1, m2, m3, m4, m5⟩ := downF_all F f (k - 59) n1 (by omega) (by omega)
      exact ⟨c, j, by rw [downF, if_pos hlt, e]; exact e2, m1, m2, by omega, by omega, by omega⟩
    · exact ⟨a, k, by rw [downF, if_neg hlt], h, by omega, by omega, by omega, by omega⟩
/-- A shift by up to 59 G ends. -/
theorem Norm.shift {a : Dc} (h : Norm a) {F G : Nat} {k : Int} (h1 : -(59 * (G : Int)) ≤ k) (h2 : k ≤ 59 * (G : Int)) (hF : a.d.length + 70 * (G + 2) ≤ F) :
    ∃ b, shiftF F G a k = some b ∧ Norm b ∧ b.d.length ≤ a.d.length + 60 * (G + 1) ∧ a.dp - 70 * (G + 1) ≤ b.dp ∧ b.dp ≤ a.dp + 20 * (G + 1) := by
  unfold shiftF
  by_cases hk : 0 ≤ k
  · rw [if_pos hk]
    obtain ⟨b, j, e, n1, n2, n3, n4, n5⟩ := upF_all G k.toNat h (by omega)
    rw [e]
    by_cases hj : j = 0
    · exact ⟨b, by simp [hj], n1, by omega, by omega, by omega⟩
    · obtain ⟨m1, m2, m3, _⟩ := n1.dbl j (by omega)
      exact ⟨dblC b j, by simp [hj], m1, by omega, by omega, by omega⟩
  · rw [if_neg hk]
    obtain ⟨b, j, e, n1, n2, n3, n4, n5⟩ := downF_all F G (-k).toNat h (by omega) (by omega)
    rw [e]
    by_cases hj : j = 0
    · exact ⟨b, by simp [hj], n1, by omega, by omega, by omega⟩
    · obtain ⟨c, e2, m1, m2, m3, m4, _⟩ := n1.half (k := j) (f := F) (by omega) (by omega) (by omega)
      exact ⟨c, by simp [hj, e2], m1, by omega, by omega, by omega⟩

/-! ### the nearest float's bits -/
def dig (l : List Nat) (i : Int) : Nat := if 0 ≤ i ∧ i < l.length then l.getD i.toNat 0 else 0
def nearUpC (a : Dc) (n : Int) : Bool :=
  if n < 0 ∨ (a.d.length : Int) ≤ n then false
  else if dig a.d n = 5 ∧ n + 1 = a.d.length then decide (0 < n) && decide (dig a.d (n - 1) % 2 ≠ 0) else decide (5 ≤ dig a.d n)
/-- The whole number, in 64 bits. -/
def wholeN (l : List Nat) : Nat → Nat
  | 0 => 0
  | n + 1 => (wholeN l n * 10 % 18446744073709551616 + dig l n) % 18446744073709551616
def wholeC (a : Dc) : Nat := if nearUpC a a.dp then (wholeN a.d a.dp.toNat + 1) % 18446744073709551616 else wholeN a.d a.dp.toNat
/-- Halved until it is below 1: the decimal, and by how much. -/
def lowF (F : Nat) : Nat → Dc → Int → Option (Dc × Int)
  | 0, _, _ => none
  | f + 1, a, e => if 0 < a.dp then (halfF F a (min (3 * a.dp) 59).toNat).bind fun b => lowF F f b (e + min (3 * a.dp) 59) else some (a, e)
/-- Doubled until it is at least one half. -/
def highF : Nat → Dc → Int → Option (Dc × Int)
  | 0, _, _ => none
  | f + 1, a, e => if a.dp < 0 ∨ hd1 a < 5 then highF f (dblC a (if a.dp < 0 then (min (-3 * a.dp) 59).toNat else 1)) (e - (if a.dp < 0 then min (-3 * a.dp) 59 else 1)) else some (a, e)
theorem Norm.d1 {a : Dc} (h : Norm a) : 0 < hd1 a ∧ hd1 a < 10 := by
  obtain ⟨h1, d1, r, hd, hp⟩ := h
  rw [hd1, hd]
  exact ⟨hp, h1 d1 (by rw [hd]; simp)⟩
theorem lowF_all (F : Nat) : ∀ (f : Nat) {a : Dc} (e : Int), Norm a → 2 * a.dp + (if 8 ≤ hd1 a then 1 else 0) ≤ f → a.d.length + 70 * (f + 1) ≤ F → ∃ b e', lowF F (f + 1) a e = some (b, e') ∧ Norm b ∧ b.d.length ≤ a.d.length + 60 * f ∧ b.dp ≤ 0 ∧ (a.dp - 70 * f ≤ b.dp) ∧ e ≤ e' ∧ e' ≤ e + 59 * f
  | 0, a, e, h, hm, hF => by
    have hz : ¬ 0 < a.dp := by split at hm <;> omega
    exact ⟨a, e, by rw [lowF, if_neg hz], h, by omega, by omega, by omega, by omega, by omega⟩
  | f + 1, a, e, h, hm, hF => by
    by_cases hz : 0 < a.dp
    · obtain ⟨d0, d9⟩ := h.d1
      obtain ⟨b, he, n1, n2, n3, n4, n5⟩ := h.half (k := (min (3 * a.dp) 59).toNat) (f := F) (by omega) (by omega) (by omega)
      have hlt : 2 * b.dp + (if 8 ≤ hd1 b then 1 else 0) ≤ f := by
        by_cases heq : b.dp = a.dp
        · obtain ⟨q1, q2⟩ := n5 heq
          have hk3 : (min (3 * a.dp) 59).toNat = 3 := by
            rcases Nat.lt_or_ge 3 (min (3 * a.dp) 59).toNat with hq | hq
            · have : 2 ^ 4 ≤ 2 ^ (min (3 * a.dp) 59).toNat := Nat.pow_le_pow_right (by omega) hq
              omega
            · omega
          rw [hk3] at q1 q2
          rw [if_pos (by omega)] at hm
          rw [if_neg (by omega)]
          omega
        · have : b.dp < a.dp := by omega
          split at hm <;> split <;> omega
      obtain ⟨c, e', g0, g1, g2, g3, g4, g5, g6⟩ := lowF_all F f (e + min (3 * a.dp) 59) n1 hlt (by omega)
      exact ⟨c, e', by rw [lowF, if_pos hz, he]; exact g0, g1, by omega, g3, by omega, by omega, by omega⟩
    · exact ⟨a, e, by rw [lowF, if_neg hz], h, by omega, by omega, by omega, by omega, by omega⟩
theorem highF_all : ∀ (f : Nat) {a : Dc} (e : Int), Norm a → 6 * (-a.dp).toNat + (5 - hd1 a) ≤ f → ∃ b e', highF (f + 1) a e = some (b, e') ∧ Norm b ∧ b.d.length ≤ a.d.length + 20 * f ∧ a.dp ≤ b.dp ∧ b.dp ≤ a.dp + 20 * f ∧ e' ≤ e ∧ e - 59 * f ≤ e'
  | 0, a, e, h, hm => by
    have hz : ¬ (a.dp < 0 ∨ hd1 a < 5) := by omega
    exact ⟨a, e, by rw [highF, if_neg hz], h, by omega, by omega, by omega, by omega, by omega⟩
  | f + 1, a, e, h, hm => by
    by_cases hz : a.dp < 0 ∨ hd1 a < 5
    · obtain ⟨d0, d9⟩ := h.d1
      obtain ⟨k, hk⟩ : ∃ k, (if a.dp < 0 then (min (-3 * a.dp) 59).toNat else 1) = k := ⟨_, rfl⟩
      have hk1 : 1 ≤ k ∧ k ≤ 59 ∧ (a.dp < 0 → 3 ≤ k) := by rw [← hk]; split <;> omega
      obtain ⟨n1, n2, n3, n4, n5⟩ := h.dbl k (by omega)
      obtain ⟨c0, c9⟩ := n1.d1
      have hlt : 6 * (-(dblC a k).dp).toNat + (5 - hd1 (dblC a k)) ≤ f := by
        by_cases heq : (dblC a k).dp = a.dp
        · have q := n4 heq
          by_cases hneg : a.dp < 0
          · have : 2 ^ 3 ≤ 2 ^ k := Nat.pow_le_pow_right (by omega) (hk1.2.2 hneg)
            have : 2 ^ 3 * hd1 a ≤ 2 ^ k * hd1 a := Nat.mul_le_mul_right _ this
            omega
          · have : 2 ^ 1 ≤ 2 ^ k := Nat.pow_le_pow_right (by omega) hk1.1
            have : 2 ^ 1 * hd1 a ≤ 2 ^ k * hd1 a := Nat.mul_le_mul_right _ this
            omega
        · by_cases hneg : a.dp < 0
          · omega
          · have : k = 1 := by rw [← hk, if_neg hneg]
            exact absurd (n5 (by rw [this]; omega)) heq
      obtain ⟨c, e', g0, g1, g2, g3, g4, g5, g6⟩ := highF_all f (e - (if a.dp < 0 then min (-3 * a.dp) 59 else 1)) n1 hlt
      refine ⟨c, e', by rw [highF, if_pos hz, hk]; exact g0, g1, by omega, by omega, by omega, ?_, ?_⟩
      · split at g5 <;> omega
      · split at g6 <;> omega
    · exact ⟨a, e, by rw [highF, if_neg hz], h, by omega, by omega, by omega, by omega, by omega⟩
/-- The exponent and the decimal of 53 bits, or none: too large. -/
def bits1 (a : Dc) : Option (Option (Dc × Int)) :=
  (lowF 100000000 700 a 0).bind fun p => (highF 300001 p.1 p.2).bind fun q =>
    (if 0 < -1022 - (q.2 - 1) then (shiftF 100000000 301000 q.1 (-(-1022 - (q.2 - 1)))).map fun c => (c, q.2 - 1 + (-1022 - (q.2 - 1))) else some (q.1, q.2 - 1)).bind fun r =>
      if 2047 ≤ r.2 + 1023 then some none else (shiftF 100000000 301000 r.1 53).map fun c => some (c, r.2)
theorem bits1_all {a : Dc} (h : Norm a) (hl : a.d.length ≤ 1000000) (h1 : -330 ≤ a.dp) (h2 : a.dp ≤ 310) : ∃ r, bits1 a = some r := by
  obtain ⟨b, e1, g1, n1, n2, n3, n4, n5, n6⟩ := lowF_all 100000000 699 (a := a) 0 h (by split <;> omega) (by omega)
  have hb := n1.d1
  obtain ⟨c, e2, g2, m1, m2, m3, m4, m5, m6⟩ := highF_all 300000 (a := b) e1 n1 (by omega)
  unfold bits1
  rw [g1]
  simp only [Option.bind_some]
  rw [g2]
  simp only [Option.bind_some]
  by_cases hk : 0 < -1022 - (e2 - 1)
  · rw [if_pos hk]
    obtain ⟨d, g3, q1, q2, q3, q4⟩ := m1.shift (F := 100000000) (G := 301000) (k := -(-1022 - (e2 - 1))) (by omega) (by omega) (by omega)
    rw [g3]
    simp only [Option.map_some, Option.bind_some]
    split
    · exact ⟨_, rfl⟩
    · obtain ⟨d2, g4, _⟩ := q1.shift (F := 100000000) (G := 301000) (k := 53) (by omega) (by omega) (by omega)
      rw [g4]
      exact ⟨_, rfl⟩
  · rw [if_neg hk]
    simp only [Option.bind_some]
    split
    · exact ⟨_, rfl⟩
    · obtain ⟨d2, g4, _⟩ := m1.shift (F := 100000000) (G := 301000) (k := 53) (by omega) (by omega) (by omega)
      rw [g4]
      exact ⟨_, rfl⟩
end Go.Proofs.YtnmochachiieaaaDoor.Pf
