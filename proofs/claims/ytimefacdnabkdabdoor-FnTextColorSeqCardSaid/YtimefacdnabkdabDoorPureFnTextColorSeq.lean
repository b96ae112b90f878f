/- The sequence of a color: what text.Color.EscapeSeq writes is what spec.TxSequence writes: both texts are the same decimal digits. -/
import Derived.Test.YtimefacdnabkdabDoorPFnTextColorSeqx2
import Derived.Test.YtimefacdnabkdabDoorBase
namespace Go.Proofs.YtimefacdnabkdabDoor.Pure
open Go.RowKit Go.Proofs.YtimefacdnabkdabDoor.PFnTextColorSeq Go.Proofs.YtimefacdnabkdabDoorW.PrintWords Go.Proofs.YtimefacdnabkdabDoorW.PrintLast Go.Proofs.YtimefacdnabkdabDoorW.PrintMore
open Go.Proofs.YtimefacdnabkdabDoor.Base Go.Proofs.YtimefacdnabkdabDoor.Hand

theorem dec_step {n : Nat} (h : 10 ≤ n) : dec n = dec (n / 10) ++ [UInt8.ofNat (48 + n % 10)] := by
  have h1 : n / 10 ≠ 0 := by omega
  simp only [dec, h1, if_false, if_neg (show ¬ n = 0 by omega), pre_pos (show n ≠ 0 by omega)]
theorem dec_small {n : Nat} (h : n < 10) : dec n = [UInt8.ofNat (48 + n)] := by
  by_cases h0 : n = 0
  · subst h0; rfl
  · have h2 : n / 10 = 0 := by omega
    have h3 : n % 10 = n := by omega
    simp only [dec, if_neg h0, pre_pos h0, h2, pre_zero, h3, List.nil_append]
theorem dec_eq : ∀ n : Nat, dec n = Lib.decDigits n := by
  intro n
  induction n using Nat.strongRecOn with
  | _ n ih =>
    rw [Lib.decDigits]
    by_cases h : n < 10
    · rw [dif_pos h, dec_small h]
    · rw [dif_neg h, dec_step (by omega), ih (n / 10) (by omega)]
theorem itoa_eq (n : Nat) (h : n < 9223372036854775808) : lightstrconv_Itoa.f (n : Int) = some ⟨(dec n).toArray⟩ := by
  unfold lightstrconv_Itoa.f lightstrconv_FormatInt.f
  rw [if_neg (by omega)]
  have hw : IntKind.u64.wrap (n : Int) = (n : Int) := by
    show (n : Int) % 18446744073709551616 = n
    omega
  rw [hw]
  unfold lightstrconv_FormatUint.f
  rw [if_pos (by omega)]
  simp
theorem itoa_std (n : Nat) (h : n < 9223372036854775808) : strconv_Itoa.f (n : Int) = some ⟨(dec n).toArray⟩ := by
  unfold strconv_Itoa.f
  rw [if_pos (by omega), dec_eq, Lib.itoa, if_neg (by omega)]
  simp
/-- The text of a code. -/
def seqOf (n : Nat) : ByteArray := ((⟨#[27, 91]⟩ : ByteArray) ++ ⟨(dec n).toArray⟩) ++ (⟨#[109]⟩ : ByteArray)
theorem dsize {n : Nat} (h : n < 18446744073709551616) : (⟨(dec n).toArray⟩ : ByteArray).size ≤ 20 := by
  have := dec_len h
  simpa [ByteArray.size] using this
theorem seq_of (n k : Nat) (h : n < 1000) : text_Color_EscapeSeq.f (k + 2) (n : Int) = some (seqOf n) := by
  have h1 := dsize (n := n) (by omega)
  unfold text_Color_EscapeSeq.f
  rw [if_neg (by omega)]
  rw [text_Color_EscapeSeq.j0, if_neg (by decide), if_neg (by omega), text_Color_EscapeSeq.j1, if_neg (by decide), itoa_eq n (by omega)]
  simp only [Option.bind_some]
  rw [if_pos (by omega), if_pos (by rw [ByteArray.size_append]; have : (⟨#[27, 91]⟩ : ByteArray).size = 2 := rfl; omega)]
  rfl
theorem tx_of (n k : Nat) (h : n < 1000) : spec_TxSequence.f (k + 2) [(n : Int)] = some (seqOf n) := by
  have h1 := dsize (n := n) (by omega)
  unfold spec_TxSequence.f
  rw [if_neg (by simp)]
  have hr : rd [(n : Int)] 0 = (n : Int) := rfl
  have hz : (⟨#[27, 91]⟩ : ByteArray).size = 2 := rfl
  have hw : wrap64 ((0 : Int) + 1) = 1 := by unfold wrap64; omega
  simp only [spec_TxSequence.l0, List.length_singleton, hr, hw]
  rw [if_pos (by decide), if_pos (by decide), if_pos (by decide), if_neg (by decide), itoa_std n (by omega)]
  simp only [Option.bind_some]
  rw [if_pos (by omega), if_neg (by decide), if_pos (by rw [ByteArray.size_append]; omega)]
  rfl
theorem att (a : Int) (h : spec_TxAttribute.f a = some true) : 1 ≤ a ∧ a ≤ 107 := by
  unfold spec_TxAttribute.f at h
  by_cases h1 : 1 ≤ a
  · refine ⟨h1, ?_⟩
    by_cases h2 : a ≤ 107
    · exact h2
    · exfalso
      rw [if_pos (by omega), if_neg (by omega), if_pos (by omega), if_neg (by omega), if_pos (by omega), if_neg (by omega), if_pos (by omega), if_neg (by omega), if_pos (by omega)] at h
      simp only [Option.some.injEq, decide_eq_true_eq] at h
      exact h2 h
  · exfalso
    rw [if_neg (by omega), if_neg (by omega), if_neg (by omega), if_neg (by omega), if_neg (by omega)] at h
    cases h
theorem att_some (a : Int) : ∃ b, spec_TxAttribute.f a = some b := by
  unfold spec_TxAttribute.f
  repeat' split
  all_goals exact ⟨_, rfl⟩

/- ∀ (a0 : Int), (Lit.int .i64 a0).wf = true → ∃ k, laws_FnTextColorSeq.f k a0 = some true -/
theorem FnTextColorSeq : laws_FnTextColorSeq.Pure := by
  intro a0 _
  refine ⟨2, ?_⟩
  have key : ∀ n : Nat, n < 1000 → a0 = (n : Int) → ((impl_TextColorSeq.f 2 a0).bind fun t111 => ((spec_TxSequence.f 2 (([a0] : List Int))).bind fun t115 => (some (t111.toList == t115.toList)))) = some true := by
    rintro n hn rfl
    unfold impl_TextColorSeq.f
    rw [seq_of n 0 hn, tx_of n 0 hn]
    simp
  unfold laws_FnTextColorSeq.f
  by_cases h0 : a0 = 0
  · rw [if_pos h0]
    exact key 0 (by omega) h0
  · rw [if_neg h0]
    obtain ⟨b, hb⟩ := att_some a0
    rw [hb]
    simp only [Option.bind_some]
    cases b with
    | false => simp
    | true =>
      have := att a0 hb
      rw [if_pos rfl]
      exact key a0.toNat (by omega) (by omega)

end Go.Proofs.YtimefacdnabkdabDoor.Pure
