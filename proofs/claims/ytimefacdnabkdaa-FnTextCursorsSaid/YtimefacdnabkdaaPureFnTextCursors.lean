/- The sequences that move the cursor n times, for n from 1 to 1000000: the escape, the decimal digits of n, the letter. -/
import Derived.Test.YtimefacdnabkdaaPFnTextCursorsx1
import Derived.Test.YtimefacdnabkdaaBase
namespace Go.Proofs.Ytimefacdnabkdaa.Pure
open Go.RowKit Go.Proofs.Ytimefacdnabkdaa.PFnTextCursors Go.Proofs.YtimefacdnabkdaaW.PrintWords Go.Proofs.YtimefacdnabkdaaW.PrintLast Go.Proofs.YtimefacdnabkdaaW.PrintMore
open Go.Proofs.Ytimefacdnabkdaa.Base Go.Proofs.Ytimefacdnabkdaa.Hand

theorem dec_step {n : Nat} (h : 10 ≤ n) : dec n = dec (n / 10) ++ [UInt8.ofNat (48 + n % 10)] := by
  unfold dec
  rw [if_neg (by omega), if_neg (by omega), pre_pos (by omega)]
theorem dec_small {n : Nat} (h : n < 10) : dec n = [UInt8.ofNat (48 + n)] := by
  unfold dec
  split
  · rename_i h0; subst h0; rfl
  · rename_i h0
    rw [pre_pos h0, show n / 10 = 0 by omega, pre_zero, show n % 10 = n by omega]; rfl
theorem decimal_ev (n : Nat) : n < 9223372036854775808 → Ev (fun k => spec_Decimal.f k (n : Int)) ⟨(dec n).toArray⟩ := by
  induction n using Nat.strongRecOn with
  | _ n ih =>
    intro hn
    by_cases h : n < 10
    · refine Ev.step (f := fun _ => some _) (fun k => ?_) (Ev.now _)
      simp only [spec_Decimal.f]
      rw [if_neg (by omega), if_pos (by omega), wrap64_id (by omega) (by omega), dec_small h]
      congr 1
      unfold strOfNums
      simp only [List.map_cons, List.map_nil]
      rw [show ((48 + (n : Int)) % 256).toNat = 48 + n by omega]
    · have e1 : wrap64 (Int.tdiv (n : Int) 10) = ((n / 10 : Nat) : Int) := by
        rw [show Int.tdiv (n : Int) 10 = ((n / 10 : Nat) : Int) from rfl, wrap64_id (by omega) (by omega)]
      have e2 : wrap64 (48 + Int.tmod (n : Int) 10) % 256 = ((48 + n % 10 : Nat) : Int) := by
        rw [show Int.tmod (n : Int) 10 = ((n % 10 : Nat) : Int) from rfl, wrap64_id (by omega) (by omega)]
        omega
      have e3 : strOfNums [((48 + n % 10 : Nat) : Int)] = ⟨#[UInt8.ofNat (48 + n % 10)]⟩ := by
        unfold strOfNums
        simp only [List.map_cons, List.map_nil, Int.toNat_natCast]
      have hl : (dec (n / 10)).length ≤ 20 := dec_len (by omega)
      refine Ev.step (f := fun k => (spec_Decimal.f k ((n / 10 : Nat) : Int)).bind fun t117 => (if t117.size + (⟨#[UInt8.ofNat (48 + n % 10)]⟩ : ByteArray).size ≤ 9223372036854775807 then (some (t117 ++ (⟨#[UInt8.ofNat (48 + n % 10)]⟩ : ByteArray))) else none)) (fun k => ?_) ?_
      · simp only [spec_Decimal.f]
        rw [if_neg (by omega), if_neg (by omega), e1, e2]
        simp only [Option.bind_some, e3]
      · refine Ev.bind (ih (n / 10) (by omega) (by omega)) (Ev.congr (f := fun _ => some _) (fun k => ?_) (Ev.now _))
        rw [if_pos (by
          rw [show (⟨#[UInt8.ofNat (48 + n % 10)]⟩ : ByteArray).size = 1 from rfl, show (⟨(dec (n / 10)).toArray⟩ : ByteArray).size = (dec (n / 10)).length from by rw [size_list]]
          omega)]
        congr 1
        apply bytes_ext
        rw [data_append, dec_step (n := n) (by omega)]

theorem itoa_eq (n : Nat) (h : n < 9223372036854775808) : lightstrconv_Itoa.f (n : Int) = some ⟨(dec n).toArray⟩ := by
  unfold lightstrconv_Itoa.f lightstrconv_FormatInt.f
  rw [if_neg (by omega)]
  have e : IntKind.u64.wrap (n : Int) = (n : Int) := by
    show (n : Int) % 18446744073709551616 = n
    omega
  rw [e]
  unfold lightstrconv_FormatUint.f
  rw [if_pos ⟨rfl, by omega, by omega⟩]
  simp

theorem FnTextCursors : laws_FnTextCursors.Pure := by
  intro a n ha hn
  have hj0 : 0 ≤ Int.tmod a 4 := by
    have := wf_u8 ha
    exact Int.tmod_nonneg _ this.1
  have hj1 : Int.tmod a 4 < 4 := by
    have := wf_u8 ha
    exact Int.tmod_lt_of_pos _ (by decide)
  by_cases h1 : n < 1
  · exact ⟨0, by unfold laws_FnTextCursors.f; rw [if_pos hj0, if_pos hj1, if_pos h1]⟩
  by_cases h2 : n > 1000000
  · exact ⟨0, by unfold laws_FnTextCursors.f; rw [if_pos hj0, if_pos hj1, if_neg h1, if_pos h2]⟩
  obtain ⟨m, rfl⟩ := Int.eq_ofNat_of_zero_le (show 0 ≤ n by omega)
  obtain ⟨k, hk⟩ := (decimal_ev m (by omega)).rounds
  refine ⟨k, ?_⟩
  have hr : rd [65, 66, 67, 68] (Int.tmod a 4) = 65 ∨ rd [65, 66, 67, 68] (Int.tmod a 4) = 66 ∨ rd [65, 66, 67, 68] (Int.tmod a 4) = 67 ∨ rd [65, 66, 67, 68] (Int.tmod a 4) = 68 := by
    generalize Int.tmod a 4 = j at *
    have : j = 0 ∨ j = 1 ∨ j = 2 ∨ j = 3 := by omega
    rcases this with rfl | rfl | rfl | rfl <;> simp [rd, List.getD]
  have hlen : (dec m).length ≤ 20 := dec_len (by omega)
  have hs : (⟨(dec m).toArray⟩ : ByteArray).size = (dec m).length := by rw [size_list]
  have hs2 : ((⟨#[27, 91]⟩ : ByteArray) ++ ⟨(dec m).toArray⟩).size = 2 + (dec m).length := by
    rw [size_list, data_append, List.length_append]; simp
  unfold laws_FnTextCursors.f
  rw [if_pos hj0, if_pos hj1, if_neg h1, if_neg h2, hk]
  unfold impl_TextCursors.f text_Cursor_Sprintn.f
  rw [itoa_eq m (by omega)]
  generalize rd [65, 66, 67, 68] (Int.tmod a 4) = r at *
  have he : (Go.Utf8.encode r).size = 1 := by
    rw [encode_ascii (by omega) (by omega)]; rfl
  rw [if_neg (by omega)]
  simp only [Option.bind_some]
  rw [if_pos (by rw [hs]; omega), if_pos (by rw [hs2, he]; omega)]
  simp only [Option.bind_some]
  rw [if_pos (by rw [hs]; omega), if_pos (by rw [hs2, he]; omega)]
  simp
end Go.Proofs.Ytimefacdnabkdaa.Pure
