/- A column's name is read back: its letters, counted in 26 from A on, give the column's number again, for every number from 0 on that is below 2^60. -/
import Derived.Test.YtimefacdnabkdaaPFnColumnIDBackx1
import Derived.Test.YtimefacdnabkdaaBase
namespace Go.Proofs.Ytimefacdnabkdaa.Pure
open Go.RowKit Go.Proofs.Ytimefacdnabkdaa.PFnColumnIDBack Go.Proofs.YtimefacdnabkdaaW.PrintWords Go.Proofs.YtimefacdnabkdaaW.PrintLast
open Go.Proofs.Ytimefacdnabkdaa.Base

/-- The number that letters count. -/
def vcol : Int → List UInt8 → Int
  | x, [] => x
  | x, b :: l => vcol (x * 26 + ((b.toNat : Int) - 65) + 1) l
theorem vcol_append (l m : List UInt8) : ∀ x, vcol x (l ++ m) = vcol (vcol x l) m := by
  induction l with
  | nil => intro x; rfl
  | cons b l ih => intro x; exact ih _
theorem vcol_le (l : List UInt8) : ∀ x, 0 ≤ x → (∀ b ∈ l, 65 ≤ b.toNat ∧ b.toNat ≤ 90) → x ≤ vcol x l := by
  induction l with
  | nil => intro x _ _; exact Int.le_refl _
  | cons b l ih =>
    intro x hx h
    have hb := h b (by simp)
    have := ih (x * 26 + ((b.toNat : Int) - 65) + 1) (by omega) (fun c hc => h c (by simp [hc]))
    show x ≤ vcol (x * 26 + ((b.toNat : Int) - 65) + 1) l
    omega

theorem id_name (n : Nat) : (n : Int) < 1152921504606846976 → ∃ s : ByteArray, s.size ≤ n + 1 ∧ (∀ b ∈ s.data.toList, 65 ≤ b.toNat ∧ b.toNat ≤ 90) ∧ vcol 0 s.data.toList = n + 1 ∧
    Ev (fun k => table_AutoIndexColumnID.f k (n : Int)) s := by
  induction n using Nat.strongRecOn with
  | _ n ih =>
    intro hn
    have e1 : wrap64 (Int.tdiv (n : Int) 26) = ((n / 26 : Nat) : Int) := by
      rw [show Int.tdiv (n : Int) 26 = ((n / 26 : Nat) : Int) from rfl]
      exact wrap64_id (by omega) (by omega)
    have e2 : wrap32 (wrap64 (65 + Int.tmod (n : Int) 26)) = ((65 + n % 26 : Nat) : Int) := by
      rw [show Int.tmod (n : Int) 26 = ((n % 26 : Nat) : Int) from rfl, wrap64_id (by omega) (by omega), wrap32_id (by omega) (by omega)]
      omega
    have e3 : Go.Utf8.encode ((65 + n % 26 : Nat) : Int) = ⟨#[UInt8.ofNat (65 + n % 26)]⟩ := encode_ascii (by omega) (by omega)
    have e4 : (UInt8.ofNat (65 + n % 26)).toNat = 65 + n % 26 := by simp only [UInt8.toNat_ofNat']; omega
    by_cases h : 26 ≤ n
    · have e5 : wrap64 (((n / 26 : Nat) : Int) - 1) = ((n / 26 - 1 : Nat) : Int) := by
        rw [wrap64_id (by omega) (by omega)]; omega
      obtain ⟨s, hs, hb, hv, he⟩ := ih (n / 26 - 1) (by omega) (by omega)
      refine ⟨s ++ ⟨#[UInt8.ofNat (65 + n % 26)]⟩, ?_, ?_, ?_, ?_⟩
      · rw [size_list, data_append, List.length_append, ← size_list]
        show s.size + 1 ≤ n + 1
        omega
      · intro b
        rw [data_append]
        intro hm
        rcases List.mem_append.1 hm with hm | hm
        · exact hb b hm
        · have : b = UInt8.ofNat (65 + n % 26) := by simpa using hm
          rw [this, e4]; omega
      · rw [data_append, vcol_append, hv]
        show ((((n / 26 - 1 : Nat) : Int) + 1) * 26 + (((UInt8.ofNat (65 + n % 26)).toNat : Int) - 65) + 1) = (n : Int) + 1
        rw [e4]; omega
      · refine Ev.step (f := fun k => (table_AutoIndexColumnID.f k ((n / 26 - 1 : Nat) : Int)).bind fun t101 => if t101.size + (⟨#[UInt8.ofNat (65 + n % 26)]⟩ : ByteArray).size ≤ 9223372036854775807 then some (t101 ++ ⟨#[UInt8.ofNat (65 + n % 26)]⟩) else none) ?_ ?_
        · intro k
          simp only [table_AutoIndexColumnID.f]
          rw [e1, e2, e3, if_pos (by omega), e5]
        · refine Ev.bind he (Ev.congr (f := fun _ => some _) (fun _ => ?_) (Ev.now _))
          rw [if_pos (by rw [show (⟨#[UInt8.ofNat (65 + n % 26)]⟩ : ByteArray).size = 1 from rfl]; omega)]
    · refine ⟨⟨#[UInt8.ofNat (65 + n % 26)]⟩, ?_, ?_, ?_, ?_⟩
      · show 1 ≤ n + 1
        omega
      · intro b hm
        have : b = UInt8.ofNat (65 + n % 26) := by simpa using hm
        rw [this, e4]; omega
      · show ((0 : Int) * 26 + (((UInt8.ofNat (65 + n % 26)).toNat : Int) - 65) + 1) = (n : Int) + 1
        rw [e4]; omega
      · refine Ev.step (f := fun _ => some _) ?_ (Ev.now _)
        intro k
        simp only [table_AutoIndexColumnID.f]
        rw [e1, e2, e3, if_neg (by omega)]

theorem id_read (n : Int) (s : ByteArray) (hb : ∀ b ∈ s.data.toList, 65 ≤ b.toNat ∧ b.toNat ≤ 90) (hs : s.size ≤ 9223372036854775806) (hn : n < 1152921504606846976) :
    ∀ (l p : List UInt8) (x : Int), s.data.toList = p ++ l → 0 ≤ x → vcol x l = n + 1 → Ev (fun k => laws_FnColumnIDBack.l0 k n s x (p.length : Int)) true := by
  intro l
  induction l with
  | nil =>
    intro p x hp hx hv
    have hsz : s.size = p.length := by rw [size_list, hp]; simp
    refine Ev.step (f := fun _ => some _) (fun k => ?_) (Ev.now _)
    have hv : x = n + 1 := hv
    simp only [laws_FnColumnIDBack.l0]
    rw [if_neg (by omega), wrap64_id (by omega) (by omega)]
    congr 1
    rw [beq_iff_eq]; omega
  | cons b l ih =>
    intro p x hp hx hv
    have hsz : s.size = p.length + l.length + 1 := by rw [size_list, hp]; simp; omega
    have hbt : bt s (p.length : Int) = (b.toNat : Int) := by
      rw [bt_list, hp]; simp [List.getD]
    have hbb := hb b (by rw [hp]; simp)
    have hle := vcol_le l (x * 26 + ((b.toNat : Int) - 65) + 1) (by omega) (fun c hc => hb c (by rw [hp]; simp [hc]))
    have hv : vcol (x * 26 + ((b.toNat : Int) - 65) + 1) l = n + 1 := hv
    have key := ih (p ++ [b]) (x * 26 + ((b.toNat : Int) - 65) + 1) (by rw [hp]; simp) (by omega) hv
    refine Ev.step (f := fun k => laws_FnColumnIDBack.l0 k n s (x * 26 + ((b.toNat : Int) - 65) + 1) ((p ++ [b]).length : Int)) (fun k => ?_) key
    simp only [laws_FnColumnIDBack.l0]
    rw [hbt, if_pos (by omega), if_pos (by omega), if_neg (by omega), if_neg (by omega)]
    have e1 : ((b.toNat : Int) - 65) % 256 = (b.toNat : Int) - 65 := by omega
    have e2 : ((p ++ [b]).length : Int) = (p.length : Int) + 1 := by simp
    rw [e1, e2, wrap64_id (x := x * 26) (by omega) (by omega), wrap64_id (x := x * 26 + ((b.toNat : Int) - 65)) (by omega) (by omega), wrap64_id (x := x * 26 + ((b.toNat : Int) - 65) + 1) (by omega) (by omega), wrap64_id (by omega) (by omega)]

theorem FnColumnIDBack : laws_FnColumnIDBack.Pure := by
  intro a hw
  unfold laws_FnColumnIDBack.f
  by_cases h0 : a < 0
  · exact ⟨1, by rw [if_pos h0]; simp [laws_FnColumnIDBack.j0]⟩
  · by_cases h1 : a ≥ 1152921504606846976
    · exact ⟨1, by rw [if_neg h0]; simp [laws_FnColumnIDBack.j0, h1]⟩
    · obtain ⟨n, rfl⟩ := Int.eq_ofNat_of_zero_le (Int.not_lt.1 h0)
      obtain ⟨s, hs, hb, hv, he⟩ := id_name n (by omega)
      have h2 := id_read n s hb (by omega) (by omega) s.data.toList [] 0 rfl (by omega) hv
      have h3 : Ev (fun k => laws_FnColumnIDBack.j0 k (n : Int) (decide ((n : Int) ≥ 1152921504606846976))) true := by
        refine Ev.step (f := fun k => (impl_ColumnID.f k (n : Int)).bind fun t103 => laws_FnColumnIDBack.l0 k n t103 0 0) (fun k => ?_) ?_
        · simp only [laws_FnColumnIDBack.j0]
          rw [if_neg (by simpa using h1)]
        · refine Ev.bind (a := s) ?_ h2
          unfold impl_ColumnID.f
          exact Ev.bind he (Ev.now _)
      obtain ⟨k, hk⟩ := h3.rounds
      exact ⟨k, by rw [if_neg h0]; exact hk⟩

end Go.Proofs.Ytimefacdnabkdaa.Pure
