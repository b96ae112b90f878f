/- One row in TSV: cells with tabs between, in double quotes where they hold a tab, a line feed, a double quote or four blanks, their own double quotes doubled; the row's number ahead where it is asked for, a tab for each column that is lacking: what the package writes is what the specification says. -/
import Derived.Test.YtimefacdnabkdabPFnTsvRowx3
import Derived.Test.YtimefacdnabkdabBase
import Derived.Test.YtimefacdnabkdabText
namespace Go.Proofs.Ytimefacdnabkdab.Pure
open Go.RowKit Go.Proofs.Ytimefacdnabkdab.PFnTsvRow Go.Proofs.YtimefacdnabkdabW.PrintWords Go.Proofs.YtimefacdnabkdabW.PrintLast Go.Proofs.YtimefacdnabkdabW.PrintMore
open Go.Proofs.Ytimefacdnabkdab.Base Go.Proofs.Ytimefacdnabkdab.Hand
set_option linter.unusedSimpArgs false
set_option linter.unusedVariables false

theorem w_succ (i : Nat) (h : i ≤ 4000000000000000000) : wrap64 ((i : Int) + 1) = ((i + 1 : Nat) : Int) := by rw [wrap64_id (by omega) (by omega)]; omega

/-! Decimal numbers. -/
theorem dec_step {n : Nat} (h : 10 ≤ n) : dec n = dec (n / 10) ++ [UInt8.ofNat (48 + n % 10)] := by
  have h1 : n / 10 ≠ 0 := by omega
  simp only [dec, h1, if_false, if_neg (show ¬ n = 0 by omega), pre_pos (show n ≠ 0 by omega)]
theorem dec_small {n : Nat} (h : n < 10) : dec n = [UInt8.ofNat (48 + n)] := by
  by_cases h0 : n = 0
  · subst h0; rfl
  · have h2 : n / 10 = 0 := by omega
    have h3 : n % 10 = n := by omega
    simp only [dec, if_neg h0, pre_pos h0, h2, pre_zero, h3, List.nil_append]
def decI (a : Int) : ByteArray := if a < 0 then ⟨(45 :: dec a.natAbs).toArray⟩ else ⟨(dec a.natAbs).toArray⟩
theorem dsz (n : Nat) (h : n < 18446744073709551616) : (⟨(dec n).toArray⟩ : ByteArray).size ≤ 20 := by
  rw [size_list]
  exact dec_len h
theorem decI_size (a : Int) (h : a.natAbs < 18446744073709551616) : (decI a).size ≤ 21 := by
  unfold decI
  have := dec_len h
  split <;> (rw [size_list]; simp; omega)
theorem str_one (d : Nat) (h : d < 256) : strOfNums ([(d : Int)] : List Int) = ⟨[UInt8.ofNat d].toArray⟩ := by
  unfold strOfNums
  simp
theorem itoa_eq (a : Int) (h0 : -9223372036854775808 ≤ a) (h1 : a ≤ 9223372036854775807) : PItoa.lightstrconv_Itoa.f a = some (decI a) := by
  unfold PItoa.lightstrconv_Itoa.f PItoa.lightstrconv_FormatInt.f
  have hu : ∀ x : Int, IntKind.u64.wrap x = x % 18446744073709551616 := fun x => rfl
  by_cases h : a < 0
  · have e : IntKind.u64.wrap (-(IntKind.u64.wrap a)) = (a.natAbs : Int) := by rw [hu, hu]; omega
    rw [if_pos h, e]
    unfold lightstrconv_FormatUint.f
    rw [if_pos (by omega)]
    have hz := dsz a.natAbs (by omega)
    simp only [Option.bind_some, Int.toNat_natCast]
    rw [if_pos (by omega)]
    simp only [Option.bind_some, Option.some.injEq]
    unfold decI
    rw [if_pos h]
    apply bytes_ext
    rw [data_append]
    rfl
  · have e : IntKind.u64.wrap a = (a.natAbs : Int) := by rw [hu]; omega
    rw [if_neg h, e]
    unfold lightstrconv_FormatUint.f
    rw [if_pos (by omega)]
    simp only [Option.bind_some, Int.toNat_natCast, Option.some.injEq]
    unfold decI
    rw [if_neg h]
theorem dec_pos_ev : ∀ n : Nat, n ≤ 9223372036854775807 → Ev (fun k => spec_Decimal.f k (n : Int)) ⟨(dec n).toArray⟩ := by
  intro n
  induction n using Nat.strongRecOn with
  | _ n ih =>
    intro hn
    by_cases h : n < 10
    · refine Ev.step (f := fun _ => some _) (fun k => ?_) (Ev.now _)
      simp only [spec_Decimal.f]
      have e : (wrap64 (48 + (n : Int))) % 256 = ((48 + n : Nat) : Int) := by rw [wrap64_id (by omega) (by omega)]; omega
      rw [if_neg (by omega), if_pos (by omega), e, str_one _ (by omega), dec_small h]
    · have e1 : wrap64 (Int.tdiv (n : Int) 10) = ((n / 10 : Nat) : Int) := by
        rw [Int.tdiv_eq_ediv_of_nonneg (by omega), wrap64_id (by omega) (by omega)]; omega
      have e2 : (wrap64 (48 + (Int.tmod (n : Int) 10))) % 256 = ((48 + n % 10 : Nat) : Int) := by
        rw [Int.tmod_eq_emod_of_nonneg (by omega), wrap64_id (by omega) (by omega)]; omega
      have hz := dsz (n / 10) (by omega)
      have h1 := ih (n / 10) (by omega) (by omega)
      refine Ev.step (f := fun k => (spec_Decimal.f k ((n / 10 : Nat) : Int)).bind fun t114 => ((some (([((48 + n % 10 : Nat) : Int)] : List Int) : List Int)).bind fun y115 => (if t114.size + (strOfNums y115).size ≤ 9223372036854775807 then (some (t114 ++ (strOfNums y115))) else (none)))) (fun k => ?_) (Ev.bind h1 (Ev.congr (f := fun _ => some _) (fun k => ?_) (Ev.now _)))
      · simp only [spec_Decimal.f]
        rw [if_neg (by omega), if_neg (by omega), e1, e2]
      · simp only [Option.bind_some]
        rw [str_one _ (by omega), if_pos (by have : (⟨[UInt8.ofNat (48 + n % 10)].toArray⟩ : ByteArray).size = 1 := rfl; omega)]
        congr 1
        apply bytes_ext
        rw [data_append, dec_step (n := n) (by omega)]
theorem dec_neg_ev : ∀ n : Nat, 0 < n → n ≤ 9223372036854775808 → Ev (fun k => spec_Decimal.f k (-(n : Int))) ⟨(45 :: dec n).toArray⟩ := by
  intro n
  induction n using Nat.strongRecOn with
  | _ n ih =>
    intro h0 hn
    have h45 : (⟨#[45]⟩ : ByteArray).size = 1 := rfl
    by_cases h : n < 10
    · refine Ev.step (f := fun _ => some _) (fun k => ?_) (Ev.now _)
      simp only [spec_Decimal.f]
      have e : (wrap64 (48 - (-(n : Int)))) % 256 = ((48 + n : Nat) : Int) := by rw [wrap64_id (by omega) (by omega)]; omega
      rw [if_pos (by omega), if_pos (by omega), e]
      simp only [Option.bind_some]
      rw [str_one _ (by omega), if_pos (by have : (⟨[UInt8.ofNat (48 + n)].toArray⟩ : ByteArray).size = 1 := rfl; omega), dec_small h]
      congr 1
    · have e1 : wrap64 (Int.tdiv (-(n : Int)) 10) = -((n / 10 : Nat) : Int) := by
        rw [Int.neg_tdiv, Int.tdiv_eq_ediv_of_nonneg (by omega), wrap64_id (by omega) (by omega)]; omega
      have e2 : (wrap64 (48 - (Int.tmod (-(n : Int)) 10))) % 256 = ((48 + n % 10 : Nat) : Int) := by
        rw [Int.neg_tmod, Int.tmod_eq_emod_of_nonneg (by omega), wrap64_id (by omega) (by omega)]; omega
      have hz := dsz (n / 10) (by omega)
      have hz2 : (⟨(45 :: dec (n / 10)).toArray⟩ : ByteArray).size ≤ 21 := by rw [size_list] at hz ⊢; simp at hz ⊢; omega
      have h1 := ih (n / 10) (by omega) (by omega) (by omega)
      refine Ev.step (f := fun k => (some (([((48 + n % 10 : Nat) : Int)] : List Int) : List Int)).bind fun y107 => ((spec_Decimal.f k (-((n / 10 : Nat) : Int))).bind fun t110 => (if t110.size + (strOfNums y107).size ≤ 9223372036854775807 then (some (t110 ++ (strOfNums y107))) else (none)))) (fun k => ?_) (Ev.congr (f := fun k => (spec_Decimal.f k (-((n / 10 : Nat) : Int))).bind fun t110 => (if t110.size + (strOfNums [((48 + n % 10 : Nat) : Int)]).size ≤ 9223372036854775807 then (some (t110 ++ (strOfNums [((48 + n % 10 : Nat) : Int)]))) else (none))) (fun k => rfl) (Ev.bind h1 (Ev.congr (f := fun _ => some _) (fun k => ?_) (Ev.now _))))
      · simp only [spec_Decimal.f]
        rw [if_pos (by omega), if_neg (by omega), e1, e2]
      · rw [str_one _ (by omega), if_pos (by have : (⟨[UInt8.ofNat (48 + n % 10)].toArray⟩ : ByteArray).size = 1 := rfl; omega)]
        congr 1
        apply bytes_ext
        rw [data_append, dec_step (n := n) (by omega)]
        rfl
theorem decimal_ev (a : Int) (h0 : -9223372036854775808 ≤ a) (h1 : a ≤ 9223372036854775807) : Ev (fun k => spec_Decimal.f k a) (decI a) := by
  unfold decI
  by_cases h : a < 0
  · have e : a = -((a.natAbs : Nat) : Int) := by omega
    rw [if_pos h]
    have := dec_neg_ev a.natAbs (by omega) (by omega)
    rw [← e] at this
    exact this
  · have e : a = ((a.natAbs : Nat) : Int) := by omega
    rw [if_neg h]
    have := dec_pos_ev a.natAbs (by omega)
    rw [← e] at this
    exact this

/-! Found or not. -/
/-- From a place on, the two searches agree. -/
theorem has_index (s sub : ByteArray) (hs : s.size ≤ 1000000000) (hb : sub.size ≤ 1000000000) : ∀ (d i : Nat), s.size + 1 - i ≤ d → i ≤ s.size + 1 →
    ∃ b r, Ev (fun k => spec_has.l0 k s sub (i : Int)) b ∧ Ev (fun k => PzzContains.table_zzIndex.l0 k s sub (i : Int)) r ∧ b = decide (r ≥ 0) ∧ (b = true ↔ ∃ j, i ≤ j ∧ j + sub.size ≤ s.size ∧ (s.extract j (j + sub.size)).data.toList = sub.data.toList) := by
  intro d
  induction d with
  | zero =>
    intro i h1 h2
    have e1 : wrap64 ((i : Int) + (sub.size : Int)) = ((i + sub.size : Nat) : Int) := by rw [wrap64_id (by omega) (by omega)]; omega
    refine ⟨false, -1, Ev.step (f := fun _ => some false) (fun k => ?_) (Ev.now _), Ev.step (f := fun _ => some (-1)) (fun k => ?_) (Ev.now _), rfl, ⟨(fun h => by cases h), (fun ⟨j, h3, h4, _⟩ => by omega)⟩⟩
    · simp only [spec_has.l0]
      rw [e1, if_neg (by omega)]
    · simp only [PzzContains.table_zzIndex.l0]
      rw [e1, if_neg (by omega)]
  | succ d ih =>
    intro i h1 h2
    have e1 : wrap64 ((i : Int) + (sub.size : Int)) = ((i + sub.size : Nat) : Int) := by rw [wrap64_id (by omega) (by omega)]; omega
    by_cases hi : i + sub.size ≤ s.size
    · by_cases hit : (s.extract i (i + sub.size)).data.toList = sub.data.toList
      · have hit' : (s.extract ((i : Int)).toNat (((i + sub.size : Nat) : Int)).toNat).toList = sub.toList := by rw [toList_data, toList_data]; exact hit
        refine ⟨true, (i : Int), Ev.step (f := fun _ => some true) (fun k => ?_) (Ev.now _), Ev.step (f := fun _ => some (i : Int)) (fun k => ?_) (Ev.now _), by simp, ⟨fun _ => ⟨i, by omega, hi, hit⟩, fun _ => rfl⟩⟩
        · simp only [spec_has.l0]
          rw [e1, if_pos (by omega), if_pos (by omega), if_pos (by omega), if_pos hit']
        · simp only [PzzContains.table_zzIndex.l0]
          rw [e1, if_pos (by omega), if_pos (by omega), if_pos (by omega), if_pos hit']
      · have hit' : ¬ (s.extract ((i : Int)).toNat (((i + sub.size : Nat) : Int)).toNat).toList = sub.toList := by rw [toList_data, toList_data]; exact hit
        obtain ⟨b, r, hb1, hr1, hbr, hiff⟩ := ih (i + 1) (by omega) (by omega)
        refine ⟨b, r, Ev.step (f := fun k => spec_has.l0 k s sub ((i + 1 : Nat) : Int)) (fun k => ?_) hb1, Ev.step (f := fun k => PzzContains.table_zzIndex.l0 k s sub ((i + 1 : Nat) : Int)) (fun k => ?_) hr1, hbr, ?_⟩
        · simp only [spec_has.l0]
          rw [e1, if_pos (by omega), if_pos (by omega), if_pos (by omega), if_neg hit', w_succ i (by omega)]
        · simp only [PzzContains.table_zzIndex.l0]
          rw [e1, if_pos (by omega), if_pos (by omega), if_pos (by omega), if_neg hit', w_succ i (by omega)]
        · rw [hiff]
          refine ⟨fun ⟨j, h3, h4, h5⟩ => ⟨j, by omega, h4, h5⟩, fun ⟨j, h3, h4, h5⟩ => ?_⟩
          by_cases hj : j = i
          · subst hj; exact absurd h5 hit
          · exact ⟨j, by omega, h4, h5⟩
    · refine ⟨false, -1, Ev.step (f := fun _ => some false) (fun k => ?_) (Ev.now _), Ev.step (f := fun _ => some (-1)) (fun k => ?_) (Ev.now _), rfl, ⟨(fun h => by cases h), (fun ⟨j, h3, h4, _⟩ => by omega)⟩⟩
      · simp only [spec_has.l0]
        rw [e1, if_neg (by omega)]
      · simp only [PzzContains.table_zzIndex.l0]
        rw [e1, if_neg (by omega)]
theorem has_ev (s sub : ByteArray) (hs : s.size ≤ 1000000000) (hb : sub.size ≤ 1000000000) : ∃ b, Ev (fun k => spec_has.f k s sub) b ∧ Ev (fun k => PzzContains.table_zzContains.f k s sub) b ∧ (b = true ↔ ∃ j, j + sub.size ≤ s.size ∧ (s.extract j (j + sub.size)).data.toList = sub.data.toList) := by
  obtain ⟨b, r, h1, h2, h3, h4⟩ := has_index s sub hs hb (s.size + 1) 0 (by omega) (by omega)
  refine ⟨b, h1, ?_, ?_⟩
  · unfold PzzContains.table_zzContains.f
    refine Ev.bind (g := fun k => PzzContains.table_zzIndex.f k s sub) h2 ?_
    rw [h3]
    exact Ev.now _
  · rw [h4]
    exact ⟨fun ⟨j, _, h⟩ => ⟨j, h⟩, fun ⟨j, h⟩ => ⟨j, by omega, h⟩⟩
/-- A text of one byte. -/
theorem has_one (s : ByteArray) (c : UInt8) (hs : s.size ≤ 1000000000) : Ev (fun k => spec_has.f k s ⟨#[c]⟩) (decide (c ∈ s.data.toList)) := by
  have h1 : (⟨#[c]⟩ : ByteArray).size = 1 := rfl
  obtain ⟨b, hb, _, hiff⟩ := has_ev s ⟨#[c]⟩ hs (by omega)
  have e : b = decide (c ∈ s.data.toList) := by
    rw [Bool.eq_iff_iff, hiff, decide_eq_true_iff, h1]
    constructor
    · rintro ⟨j, hj, he⟩
      rw [Text.data_extract, show j + 1 - j = 1 by omega] at he
      have : c ∈ (s.data.toList.drop j).take 1 := by rw [he]; simp
      exact List.mem_of_mem_drop (List.mem_of_mem_take this)
    · intro hm
      obtain ⟨j, hj, rfl⟩ := List.getElem_of_mem hm
      have hj' : j < s.size := by rw [size_list]; exact hj
      refine ⟨j, by omega, ?_⟩
      rw [Text.data_extract, show j + 1 - j = 1 by omega, List.drop_eq_getElem_cons hj]
      rfl
  rw [← e]
  exact hb

open PzzContainsAny in
theorem any_inner (x5 x6 P : Int) (s : ByteArray) : ((x6 = 9 ∨ x6 = 10 ∨ x6 = 34) → Ev (fun k => table_zzIndexAny.l1 k TNQ x5 x6 P s 0 TNQ) x5) ∧ (∀ r, ¬ (x6 = 9 ∨ x6 = 10 ∨ x6 = 34) → Ev (fun k => table_zzIndexAny.l0 k TNQ P s) r → Ev (fun k => table_zzIndexAny.l1 k TNQ x5 x6 P s 0 TNQ) r) := by
  have r0 : It.itR TNQ 0 = 9 := by decide +kernel
  have r1 : It.itR TNQ 1 = 10 := by decide +kernel
  have r2 : It.itR TNQ 2 = 34 := by decide +kernel
  have p0 : It.itP TNQ 0 = 1 := by decide +kernel
  have p1 : It.itP TNQ 1 = 2 := by decide +kernel
  have p2 : It.itP TNQ 2 = 3 := by decide +kernel
  have z : (TNQ.size : Int) = 3 := by decide +kernel
  have k0 : It.itK 0 < 3 := by decide
  have k1 : It.itK 1 < 3 := by decide
  have k2 : It.itK 2 < 3 := by decide
  have k3 : ¬ It.itK 3 < 3 := by decide
  have s0 : ∀ k, table_zzIndexAny.l1 (k + 1) TNQ x5 x6 P s 0 TNQ = if x6 = 9 then some x5 else table_zzIndexAny.l1 k TNQ x5 x6 P s 1 TNQ := fun k => by
    simp only [table_zzIndexAny.l1]; rw [z, if_pos k0, r0, p0]
  have s1 : ∀ k, table_zzIndexAny.l1 (k + 1) TNQ x5 x6 P s 1 TNQ = if x6 = 10 then some x5 else table_zzIndexAny.l1 k TNQ x5 x6 P s 2 TNQ := fun k => by
    simp only [table_zzIndexAny.l1]; rw [z, if_pos k1, r1, p1]
  have s2 : ∀ k, table_zzIndexAny.l1 (k + 1) TNQ x5 x6 P s 2 TNQ = if x6 = 34 then some x5 else table_zzIndexAny.l1 k TNQ x5 x6 P s 3 TNQ := fun k => by
    simp only [table_zzIndexAny.l1]; rw [z, if_pos k2, r2, p2]
  have s3 : ∀ k, table_zzIndexAny.l1 (k + 1) TNQ x5 x6 P s 3 TNQ = table_zzIndexAny.l0 k TNQ P s := fun k => by
    simp only [table_zzIndexAny.l1]; rw [z, if_neg k3]
  refine ⟨fun h => ?_, fun r h hr => ?_⟩
  · by_cases h9 : x6 = 9
    · exact Ev.step (f := fun _ => some x5) (fun k => by rw [s0, if_pos h9]) (Ev.now _)
    · refine Ev.step (f := fun k => table_zzIndexAny.l1 k TNQ x5 x6 P s 1 TNQ) (fun k => by rw [s0, if_neg h9]) ?_
      by_cases h10 : x6 = 10
      · exact Ev.step (f := fun _ => some x5) (fun k => by rw [s1, if_pos h10]) (Ev.now _)
      · refine Ev.step (f := fun k => table_zzIndexAny.l1 k TNQ x5 x6 P s 2 TNQ) (fun k => by rw [s1, if_neg h10]) ?_
        exact Ev.step (f := fun _ => some x5) (fun k => by rw [s2, if_pos (by omega)]) (Ev.now _)
  · refine Ev.step (f := fun k => table_zzIndexAny.l1 k TNQ x5 x6 P s 1 TNQ) (fun k => by rw [s0, if_neg (by omega)]) ?_
    refine Ev.step (f := fun k => table_zzIndexAny.l1 k TNQ x5 x6 P s 2 TNQ) (fun k => by rw [s1, if_neg (by omega)]) ?_
    refine Ev.step (f := fun k => table_zzIndexAny.l1 k TNQ x5 x6 P s 3 TNQ) (fun k => by rw [s2, if_neg (by omega)]) ?_
    exact Ev.step (f := fun k => table_zzIndexAny.l0 k TNQ P s) (fun k => by rw [s3]) hr
/-- One of the three bytes stands from a place on. -/
def AnyAt (s : ByteArray) (pos : Nat) : Prop := ∃ j, ∃ hj : j < s.size, pos ≤ j ∧ ((s[j]'hj).toNat = 9 ∨ (s[j]'hj).toNat = 10 ∨ (s[j]'hj).toNat = 34)
open PzzContainsAny in
theorem any_l0 (s : ByteArray) (hs : s.size ≤ 1000000000) : ∀ (d pos : Nat), pos ≤ s.size → s.size - pos ≤ d →
    ∃ r : Int, Ev (fun k => table_zzIndexAny.l0 k TNQ (pos : Int) s) r ∧ (r ≥ 0 ↔ AnyAt s pos) := by
  intro d
  induction d with
  | zero =>
    intro pos h1 h2
    refine ⟨-1, Ev.step (f := fun _ => some (-1)) (fun k => ?_) (Ev.now _), (fun h => by omega), (fun ⟨j, hj, h, _⟩ => by omega)⟩
    simp only [table_zzIndexAny.l0]
    rw [if_neg (by unfold It.itK; omega)]
  | succ d ih =>
    intro pos h1 h2
    by_cases hlt : pos < s.size
    · obtain ⟨t1, t2, t3, t4, t5⟩ := Text.decode_takes s pos hlt
      have eR : It.itR s (pos : Int) = ((Go.Utf8.decode s pos).1 : Int) := rfl
      have eP : It.itP s (pos : Int) = ((pos + (Go.Utf8.decode s pos).2 : Nat) : Int) := rfl
      have hk' : It.itK (pos : Int) < (s.size : Int) := by unfold It.itK; omega
      obtain ⟨r, hr, hiff⟩ := ih (pos + (Go.Utf8.decode s pos).2) t2 (by omega)
      obtain ⟨i1, i2⟩ := any_inner (It.itK (pos : Int)) (It.itR s (pos : Int)) (It.itP s (pos : Int)) s
      by_cases hin : It.itR s (pos : Int) = 9 ∨ It.itR s (pos : Int) = 10 ∨ It.itR s (pos : Int) = 34
      · refine ⟨It.itK (pos : Int), Ev.step (fun k => by simp only [table_zzIndexAny.l0]; rw [if_pos hk']) (i1 hin), (fun _ => ⟨pos, hlt, by omega, ?_⟩), (fun _ => by unfold It.itK; omega)⟩
        rw [eR] at hin
        by_cases h128 : (s[pos]'hlt).toNat < 128
        · have := (t4 h128).1
          omega
        · have := t5 (by omega)
          omega
      · refine ⟨r, Ev.step (fun k => by simp only [table_zzIndexAny.l0]; rw [if_pos hk']) (i2 r hin (by rw [eP]; exact hr)), ?_⟩
        rw [hiff]
        refine ⟨fun ⟨j, hj, h, hx⟩ => ⟨j, hj, by omega, hx⟩, fun ⟨j, hj, h, hx⟩ => ?_⟩
        by_cases hj2 : pos + (Go.Utf8.decode s pos).2 ≤ j
        · exact ⟨j, hj, hj2, hx⟩
        · exfalso
          by_cases hj3 : j = pos
          · subst hj3
            have := (t4 (by omega)).1
            rw [eR] at hin
            omega
          · have := t3 j (by omega) (by omega) hj
            omega
    · refine ⟨-1, Ev.step (f := fun _ => some (-1)) (fun k => ?_) (Ev.now _), (fun h => by omega), (fun ⟨j, hj, h, _⟩ => by omega)⟩
      simp only [table_zzIndexAny.l0]
      rw [if_neg (by unfold It.itK; omega)]
theorem any_ev (s : ByteArray) (hs : s.size ≤ 1000000000) : Ev (fun k => PzzContainsAny.table_zzContainsAny.f k s TNQ) (decide (9 ∈ s.data.toList) || decide (10 ∈ s.data.toList) || decide (34 ∈ s.data.toList)) := by
  obtain ⟨r, hr, hiff⟩ := any_l0 s hs s.size 0 (by omega) (by omega)
  have e : decide (r ≥ 0) = (decide (9 ∈ s.data.toList) || decide (10 ∈ s.data.toList) || decide (34 ∈ s.data.toList)) := by
    rw [Bool.eq_iff_iff, decide_eq_true_iff, hiff]
    simp only [Bool.or_eq_true, decide_eq_true_eq]
    constructor
    · rintro ⟨j, hj, _, hx⟩
      have hm : s[j]'hj ∈ s.data.toList := List.getElem_mem (l := s.data.toList) (by rw [← size_list]; exact hj)
      have key : ∀ c : UInt8, (s[j]'hj).toNat = c.toNat → c ∈ s.data.toList := fun c hc => by rw [← UInt8.toNat_inj.1 hc]; exact hm
      rcases hx with hx | hx | hx
      · exact .inl (.inl (key 9 hx))
      · exact .inl (.inr (key 10 hx))
      · exact .inr (key 34 hx)
    · intro h
      have key : ∀ c : UInt8, c ∈ s.data.toList → (c.toNat = 9 ∨ c.toNat = 10 ∨ c.toNat = 34) → AnyAt s 0 := fun c hm hc => by
        obtain ⟨j, hj, he⟩ := List.getElem_of_mem hm
        exact ⟨j, by rw [size_list]; exact hj, by omega, by
          have : (s[j]'(by rw [size_list]; exact hj)) = c := he
          rw [this]; exact hc⟩
      rcases h with (h | h) | h
      · exact key 9 h (.inl rfl)
      · exact key 10 h (.inr (.inl rfl))
      · exact key 34 h (.inr (.inr rfl))
  rw [← e]
  unfold PzzContainsAny.table_zzContainsAny.f
  exact Ev.bind (g := fun k => PzzContainsAny.table_zzIndexAny.f k s TNQ) hr (Ev.now _)

/-! Double quotes doubled. -/
def dup : List UInt8 → List UInt8
  | [] => []
  | c :: r => (if c = 34 then [34, 34] else [c]) ++ dup r
theorem dup_append : ∀ a b, dup (a ++ b) = dup a ++ dup b
  | [], b => rfl
  | c :: r, b => by simp [dup, dup_append r b]
theorem dup_none : ∀ a : List UInt8, (34 : UInt8) ∉ a → dup a = a
  | [], _ => rfl
  | c :: r, h => by
    have h1 : c ≠ 34 := fun e => h (by simp [e])
    rw [dup, if_neg h1, dup_none r (fun e => h (by simp [e]))]
    rfl
theorem dup_len : ∀ a : List UInt8, (dup a).length ≤ 2 * a.length
  | [] => by simp [dup]
  | c :: r => by
    have := dup_len r
    rw [dup, List.length_append, List.length_cons]
    split <;> simp <;> omega
theorem ext_one (s : ByteArray) (i : Nat) (hi : i < s.size) : (s.extract i (i + 1)).data.toList = [s[i]'hi] := by
  have hj : i < s.data.toList.length := by rw [← size_list]; exact hi
  rw [Text.data_extract, show i + 1 - i = 1 by omega, List.drop_eq_getElem_cons hj]
  rfl
theorem strOf_bytes (x : ByteArray) : strOfNums (bytesOf x) = x := by
  apply bytes_ext
  simp [strOfNums, bytesOf]
  exact List.map_id'' (fun x => by simp) _
theorem bytesOf_app (a b : ByteArray) : bytesOf a ++ bytesOf b = bytesOf (a ++ b) := by
  simp [bytesOf, data_append]
theorem bytesOf_len (a : ByteArray) : (bytesOf a).length = a.size := by simp [bytesOf]

open PzzReplaceAll in
theorem idx1 (s : ByteArray) (hs : s.size ≤ 1000000000) : ∀ (d i : Nat), s.size - i ≤ d → i ≤ s.size → (34 : UInt8) ∉ s.data.toList.take i →
    ∃ r : Int, Ev (fun k => table_zzIndex.l0 k s QQ1 (i : Int)) r ∧ ((r = -1 ∧ (34 : UInt8) ∉ s.data.toList) ∨ ∃ n : Nat, n < s.size ∧ r = (n : Int) ∧ (34 : UInt8) ∉ s.data.toList.take n ∧ s.data.toList = s.data.toList.take n ++ 34 :: s.data.toList.drop (n + 1)) := by
  have hq : QQ1.size = 1 := rfl
  intro d
  induction d with
  | zero =>
    intro i h1 h2 h3
    obtain rfl : i = s.size := by omega
    refine ⟨-1, Ev.step (f := fun _ => some (-1)) (fun k => ?_) (Ev.now _), .inl ⟨rfl, ?_⟩⟩
    · simp only [table_zzIndex.l0]
      rw [hq, show ((1 : Nat) : Int) = 1 from rfl, w_succ _ (by omega), if_neg (by omega)]
    · rw [size_list, List.take_length] at h3
      exact h3
  | succ d ih =>
    intro i h1 h2 h3
    by_cases hi : i < s.size
    · have hj : i < s.data.toList.length := by rw [← size_list]; exact hi
      have hx := ext_one s i hi
      have hsi : s.data.toList[i] = s[i]'hi := rfl
      by_cases hc : s[i]'hi = 34
      · refine ⟨(i : Int), Ev.step (f := fun _ => some (i : Int)) (fun k => ?_) (Ev.now _), .inr ⟨i, hi, rfl, h3, ?_⟩⟩
        · simp only [table_zzIndex.l0]
          rw [hq, show ((1 : Nat) : Int) = 1 from rfl, w_succ _ (by omega), if_pos (by omega), if_pos (by omega), if_pos (by omega), if_pos]
          rw [toList_data, toList_data]
          show (s.extract i (i + 1)).data.toList = [34]
          rw [hx, hc]
        · conv => lhs; rw [← List.take_append_drop i s.data.toList, List.drop_eq_getElem_cons hj, hsi, hc]
      · obtain ⟨r, hr, h4⟩ := ih (i + 1) (by omega) (by omega) (by
          rw [List.take_succ_eq_append_getElem hj]
          intro hm
          rcases List.mem_append.1 hm with hm | hm
          · exact h3 hm
          · simp only [List.mem_singleton] at hm
            exact hc (hsi ▸ hm.symm))
        refine ⟨r, Ev.step (f := fun k => table_zzIndex.l0 k s QQ1 ((i + 1 : Nat) : Int)) (fun k => ?_) hr, h4⟩
        simp only [table_zzIndex.l0]
        rw [hq, show ((1 : Nat) : Int) = 1 from rfl, w_succ _ (by omega), if_pos (by omega), if_pos (by omega), if_pos (by omega), if_neg]
        rw [toList_data, toList_data]
        show ¬ (s.extract i (i + 1)).data.toList = [34]
        rw [hx]
        intro e
        exact hc (List.cons.inj e).1
    · obtain rfl : i = s.size := by omega
      refine ⟨-1, Ev.step (f := fun _ => some (-1)) (fun k => ?_) (Ev.now _), .inl ⟨rfl, ?_⟩⟩
      · simp only [table_zzIndex.l0]
        rw [hq, show ((1 : Nat) : Int) = 1 from rfl, w_succ _ (by omega), if_neg (by omega)]
      · rw [size_list, List.take_length] at h3
        exact h3
open PzzReplaceAll in
theorem rep_l1 : ∀ (d : Nat) (s acc : ByteArray), s.size ≤ d → s.size ≤ 1000000 → acc.size + 2 * s.size ≤ 1000000000 → Ev (fun k => table_zzReplaceAll.l1 k s QQ1 QQ2 (bytesOf acc)) (acc ++ ⟨(dup s.data.toList).toArray⟩) := by
  have hq : QQ1.size = 1 := rfl
  have hq2 : QQ2.size = 2 := rfl
  intro d
  induction d with
  | zero =>
    intro s acc h1 h2 h3
    obtain ⟨r, hr, hc⟩ := idx1 s (by omega) s.size 0 (by omega) (by omega) (by simp)
    rcases hc with ⟨rfl, hno⟩ | ⟨n, hn, _⟩
    · refine Ev.step (fun k => by simp only [table_zzReplaceAll.l1]; rfl) (Ev.bind (g := fun k => table_zzIndex.f k s QQ1) hr (Ev.congr (f := fun _ => some _) (fun k => ?_) (Ev.now _)))
      rw [if_pos (by decide), if_pos (by rw [bytesOf_len]; omega), bytesOf_app, strOf_bytes, dup_none _ hno]
    · omega
  | succ d ih =>
    intro s acc h1 h2 h3
    obtain ⟨r, hr, hc⟩ := idx1 s (by omega) s.size 0 (by omega) (by omega) (by simp)
    rcases hc with ⟨rfl, hno⟩ | ⟨n, hn, rfl, hna, hsplit⟩
    · refine Ev.step (fun k => by simp only [table_zzReplaceAll.l1]; rfl) (Ev.bind (g := fun k => table_zzIndex.f k s QQ1) hr (Ev.congr (f := fun _ => some _) (fun k => ?_) (Ev.now _)))
      rw [if_pos (by decide), if_pos (by rw [bytesOf_len]; omega), bytesOf_app, strOf_bytes, dup_none _ hno]
    · have e1 : (s.extract 0 n).data.toList = s.data.toList.take n := by rw [Text.data_extract]; simp
      have e2 : (s.extract (n + 1) s.size).data.toList = s.data.toList.drop (n + 1) := by
        rw [Text.data_extract, List.take_of_length_le (by rw [List.length_drop, ← size_list]; omega)]
      have z1 : (s.extract 0 n).size = n := by rw [size_list, e1, List.length_take, ← size_list]; omega
      have z2 : (s.extract (n + 1) s.size).size = s.size - (n + 1) := by rw [size_list, e2, List.length_drop, ← size_list]
      have z3 : (acc ++ s.extract 0 n).size = acc.size + n := by rw [ByteArray.size_append, z1]
      have z4 : ((acc ++ s.extract 0 n) ++ QQ2).size = acc.size + n + 2 := by rw [ByteArray.size_append, z3, hq2]
      have next := ih (s.extract (n + 1) s.size) ((acc ++ s.extract 0 n) ++ QQ2) (by omega) (by omega) (by omega)
      have eres : ((acc ++ s.extract 0 n) ++ QQ2) ++ ⟨(dup (s.extract (n + 1) s.size).data.toList).toArray⟩ = acc ++ ⟨(dup s.data.toList).toArray⟩ := by
        apply bytes_ext
        have hd : dup s.data.toList = s.data.toList.take n ++ 34 :: 34 :: dup (s.data.toList.drop (n + 1)) := by
          conv => lhs; rw [hsplit]
          rw [dup_append, dup_none _ hna]
          rfl
        rw [data_append, data_append, data_append, data_append, e1, e2, hd]
        simp
      rw [eres] at next
      refine Ev.step (fun k => by simp only [table_zzReplaceAll.l1]; rfl) (Ev.bind (g := fun k => table_zzIndex.f k s QQ1) (a := (n : Int)) hr (Ev.congr (f := fun k => table_zzReplaceAll.l1 k (s.extract (n + 1) s.size) QQ1 QQ2 (bytesOf ((acc ++ s.extract 0 n) ++ QQ2))) (fun k => ?_) next))
      rw [if_neg (by omega), if_pos (by omega), if_pos (by omega)]
      simp only [Int.toNat_natCast, Option.bind_some]
      rw [if_pos (by rw [bytesOf_len, z1]; omega), bytesOf_app, bytesOf_app, if_pos (by rw [bytesOf_len, z3, hq2]; omega), hq, show ((1 : Nat) : Int) = 1 from rfl, w_succ _ (by omega), if_pos (by omega), if_pos (by omega)]
      rfl
/-- The quoted text. -/
def quotedB (s : ByteArray) : ByteArray := (QQ1 ++ ⟨(dup s.data.toList).toArray⟩) ++ QQ1
theorem quo_ev (s : ByteArray) (hs : s.size ≤ 100000) : Ev (fun k => quo.f k s) (quotedB s) := by
  unfold quo.f
  have h1 := rep_l1 s.size s ⟨#[]⟩ (by omega) (by omega) (by have : (⟨#[]⟩ : ByteArray).size = 0 := rfl; omega)
  have e0 : (⟨#[]⟩ : ByteArray) ++ ⟨(dup s.data.toList).toArray⟩ = ⟨(dup s.data.toList).toArray⟩ := by apply bytes_ext; rw [data_append]; simp
  rw [e0] at h1
  have hz : (⟨(dup s.data.toList).toArray⟩ : ByteArray).size ≤ 200000 := by
    rw [size_list]
    have := dup_len s.data.toList
    rw [← size_list] at this
    show (dup s.data.toList).length ≤ _
    omega
  refine Ev.bind (g := fun k => PzzReplaceAll.table_zzReplaceAll.f k s QQ1 QQ2) (Ev.congr (fun k => ?_) h1) (Ev.congr (f := fun _ => some _) (fun k => by rw [if_pos (by omega)]; rfl) (Ev.now _))
  unfold PzzReplaceAll.table_zzReplaceAll.f
  rw [if_neg (by decide)]
  rfl
theorem quoted_l0 (s : ByteArray) (hs : s.size ≤ 100000) : ∀ (d i : Nat) (acc : ByteArray), s.size - i ≤ d → i ≤ s.size → acc.data.toList = 34 :: dup (s.data.toList.take i) → Ev (fun k => spec_quoted.l0 k s acc (i : Int)) (quotedB s) := by
  have h34 : (⟨#[34]⟩ : ByteArray).size = 1 := rfl
  have fin : ∀ acc : ByteArray, acc.data.toList = 34 :: dup (s.data.toList.take s.size) → Ev (fun k => spec_quoted.l0 k s acc (s.size : Int)) (quotedB s) := by
    intro acc ha
    have hz : acc.size ≤ 300000 := by
      rw [size_list, ha, List.length_cons]
      have := dup_len (s.data.toList.take s.size)
      rw [List.length_take, ← size_list] at this
      omega
    refine Ev.step (f := fun _ => some _) (fun k => ?_) (Ev.now _)
    simp only [spec_quoted.l0]
    rw [if_neg (by omega), if_pos (by omega)]
    congr 1
    apply bytes_ext
    unfold quotedB
    rw [data_append, data_append, data_append, ha, size_list, List.take_length]
    rfl
  intro d
  induction d with
  | zero =>
    intro i acc h1 h2 ha
    obtain rfl : i = s.size := by omega
    exact fin acc ha
  | succ d ih =>
    intro i acc h1 h2 ha
    by_cases hi : i < s.size
    · have hj : i < s.data.toList.length := by rw [← size_list]; exact hi
      have hz : acc.size ≤ 300000 := by
        rw [size_list, ha, List.length_cons]
        have := dup_len (s.data.toList.take i)
        rw [List.length_take, ← size_list] at this
        omega
      have hx := ext_one s i hi
      have hxz : (s.extract i (i + 1)).size = 1 := by rw [size_list, hx]; rfl
      have hbt : bt s (i : Int) = ((s[i]'hi).toNat : Int) := by
        rw [bt_list]
        simp [List.getD, hi]
        rfl
      have hsi : s.data.toList[i] = s[i]'hi := rfl
      have htk : dup (s.data.toList.take (i + 1)) = dup (s.data.toList.take i) ++ (if s[i]'hi = 34 then [34, 34] else [s[i]'hi]) := by
        rw [List.take_succ_eq_append_getElem hj, dup_append, hsi]
        simp [dup]
      by_cases hc : s[i]'hi = 34
      · rw [if_pos hc] at htk
        have hb : bt s (i : Int) = 34 := by rw [hbt, hc]; rfl
        have := ih (i + 1) ((acc ++ (⟨#[34]⟩ : ByteArray)) ++ s.extract i (i + 1)) (by omega) (by omega) (by
          rw [data_append, data_append, hx, ha, htk, hc]
          simp)
        refine Ev.step (fun k => ?_) this
        simp only [spec_quoted.l0]
        rw [if_pos (by omega), if_pos (by omega), if_pos hb, if_pos (by omega), w_succ _ (by omega), if_pos (by omega), if_pos (by omega)]
        simp only [Int.toNat_natCast]
        rw [if_pos (by rw [ByteArray.size_append]; omega)]
      · rw [if_neg hc] at htk
        have hb : ¬ bt s (i : Int) = 34 := by
          rw [hbt]
          intro e
          exact hc (UInt8.toNat_inj.1 (show (s[i]'hi).toNat = (34 : UInt8).toNat from by
            show _ = 34
            omega))
        have := ih (i + 1) (acc ++ s.extract i (i + 1)) (by omega) (by omega) (by
          rw [data_append, hx, ha, htk]
          simp)
        refine Ev.step (fun k => ?_) this
        simp only [spec_quoted.l0]
        rw [if_pos (by omega), if_pos (by omega), if_neg hb, w_succ _ (by omega), if_pos (by omega), if_pos (by omega)]
        simp only [Int.toNat_natCast]
        rw [if_pos (by omega)]
    · obtain rfl : i = s.size := by omega
      exact fin acc ha
theorem quoted_ev (s : ByteArray) (hs : s.size ≤ 100000) : Ev (fun k => spec_quoted.f k s) (quotedB s) := quoted_l0 s hs s.size 0 ⟨#[34]⟩ (by omega) (by omega) (by simp [dup])

/-! The law's own measure. -/
theorem fits4_l0 (l : List ByteArray) (hl : l.length ≤ 2147483647) : ∀ (r p : List ByteArray), l = p ++ r →
    ∃ b, (b = true → ∀ x ∈ r, x.size ≤ 2147483647) ∧ Ev (fun k => laws_zzFits4.l0 k l (l.length : Int) (p.length : Int)) b := by
  intro r
  induction r with
  | nil =>
    intro p hp
    refine ⟨true, fun _ x hx => by simp at hx, Ev.step (f := fun _ => some true) (fun k => ?_) (Ev.now _)⟩
    simp only [laws_zzFits4.l0]
    rw [if_neg (by rw [hp]; simp)]
  | cons q r ih =>
    intro p hp
    have hlen : l.length = p.length + r.length + 1 := by rw [hp]; simp; omega
    have hrd : rdOf ByteArray.empty l (p.length : Int) = q := by rw [hp]; simp [rdOf, List.getD]
    obtain ⟨b, hb, hev⟩ := ih (p ++ [q]) (by rw [hp]; simp)
    by_cases hq : (q.size : Int) > 2147483647
    · refine ⟨false, (fun h => by cases h), Ev.step (f := fun _ => some false) (fun k => ?_) (Ev.now _)⟩
      simp only [laws_zzFits4.l0]
      rw [if_pos (by omega), if_pos (by omega), if_pos (by omega), hrd, if_pos hq]
    · refine ⟨b, fun h x hx => ?_, Ev.step (f := fun k => laws_zzFits4.l0 k l (l.length : Int) ((p ++ [q]).length : Int)) (fun k => ?_) hev⟩
      · rcases List.mem_cons.1 hx with rfl | hx
        · omega
        · exact hb h x hx
      · simp only [laws_zzFits4.l0]
        rw [if_pos (by omega), if_pos (by omega), if_pos (by omega), hrd, if_neg hq, succ_len (q := q) (by omega)]
theorem fits4_ev (l : List ByteArray) : ∃ b, (b = true → l.length ≤ 2147483647 ∧ ∀ x ∈ l, x.size ≤ 2147483647) ∧ Ev (fun k => laws_zzFits4.f k l) b := by
  unfold laws_zzFits4.f
  by_cases h : (l.length : Int) > 2147483647
  · exact ⟨false, (fun h => by cases h), Ev.congr (f := fun _ => some false) (fun k => by rw [if_pos h]) (Ev.now _)⟩
  · obtain ⟨b, hb, hev⟩ := fits4_l0 l (by omega) l [] rfl
    exact ⟨b, fun e => ⟨by omega, hb e⟩, Ev.congr (f := fun k => laws_zzFits4.l0 k l (l.length : Int) 0) (fun k => by rw [if_neg h]) hev⟩
theorem texts_l0 (l : List ByteArray) (hl : l.length ≤ 2147483647) (hz : ∀ x ∈ l, x.size ≤ 2147483647) : ∀ (r p : List ByteArray) (n : Nat), l = p ++ r → n ≤ 2147490000 →
    ∃ b, (b = true → n + r.length ≤ 2000 ∧ ∀ x ∈ r, x.size ≤ 2000) ∧ Ev (fun k => laws_texts.l0 k l 2000 (n : Int) (p.length : Int)) b := by
  intro r
  induction r with
  | nil =>
    intro p n hp hn
    refine ⟨decide ((n : Int) ≤ 2000), (fun h => ?_), Ev.step (f := fun _ => some (decide ((n : Int) ≤ 2000))) (fun k => ?_) (Ev.now _)⟩
    · have h1 := of_decide_eq_true h
      refine ⟨?_, fun x hx => by simp at hx⟩
      simp only [List.length_nil]
      omega
    · simp only [laws_texts.l0]
      rw [if_neg (by rw [hp]; simp)]
  | cons q r ih =>
    intro p n hp hn
    have hlen : l.length = p.length + r.length + 1 := by rw [hp]; simp; omega
    have hrd : rdOf ByteArray.empty l (p.length : Int) = q := by rw [hp]; simp [rdOf, List.getD]
    have hq := hz q (by rw [hp]; simp)
    by_cases hn2 : n ≤ 2000
    · obtain ⟨b, hb, hev⟩ := ih (p ++ [q]) (n + q.size + 1) (by rw [hp]; simp) (by omega)
      refine ⟨b, (fun h => ?_), Ev.step (f := fun k => laws_texts.l0 k l 2000 ((n + q.size + 1 : Nat) : Int) ((p ++ [q]).length : Int)) (fun k => ?_) hev⟩
      · obtain ⟨h1, h2⟩ := hb h
        refine ⟨by rw [List.length_cons]; omega, fun x hx => ?_⟩
        rcases List.mem_cons.1 hx with rfl | hx
        · omega
        · exact h2 x hx
      · have e : wrap64 ((n : Int) + ((q.size + 1 : Nat) : Int)) = ((n + q.size + 1 : Nat) : Int) := by rw [wrap64_id (by omega) (by omega)]; omega
        simp only [laws_texts.l0]
        rw [if_pos (by omega), if_pos (by omega), if_pos (by omega), hrd, w_succ q.size (by omega), e, succ_len (q := q) (by omega)]
    · refine ⟨false, (fun h => by cases h), Ev.step (f := fun _ => some false) (fun k => ?_) (Ev.now _)⟩
      simp only [laws_texts.l0]
      rw [if_pos (by omega), if_neg (by omega), decide_eq_false (by omega)]

/-! One cell. -/
def brk (k : Nat) (s : ByteArray) (K : ByteArray → Option ByteArray) : Option ByteArray :=
  (spec_has.f k s ⟨#[9]⟩).bind fun t => if t = true then (spec_quoted.f k s).bind K else (spec_has.f k s ⟨#[10]⟩).bind fun t => if t = true then (spec_quoted.f k s).bind K else
    (spec_has.f k s ⟨#[34]⟩).bind fun t => if t = true then (spec_quoted.f k s).bind K else (spec_has.f k s ⟨#[32, 32, 32, 32]⟩).bind fun t => if t = true then (spec_quoted.f k s).bind K else K s
theorem brk_step (x0 : List ByteArray) (x1 : Int) (x2 : Bool) (x3 : Int) (x9 : List ByteArray) (i : Nat) (s : ByteArray) (hs : rdOf ByteArray.empty x0 (i : Int) = s) (hi : i < x0.length) (hb : x0.length ≤ 10000) (k : Nat) :
    spec_TsvRow.l0 (k + 1) x0 x1 x2 x3 x9 (i : Int) = brk k s (fun t => if x9.length < 8796093022208 then spec_TsvRow.l0 k x0 x1 x2 x3 (x9 ++ [t]) ((i + 1 : Nat) : Int) else none) := by
  simp only [spec_TsvRow.l0]
  rw [if_pos (by omega), if_pos (by omega), hs, w_succ i (by omega)]
  rfl
theorem quotedB_size (s : ByteArray) (hs : s.size ≤ 2000) : (quotedB s).size ≤ 10000 := by
  have h1 : QQ1.size = 1 := rfl
  have h2 : (⟨(dup s.data.toList).toArray⟩ : ByteArray).size ≤ 4000 := by
    rw [size_list]
    have := dup_len s.data.toList
    rw [← size_list] at this
    show (dup s.data.toList).length ≤ _
    omega
  unfold quotedB
  rw [ByteArray.size_append, ByteArray.size_append]
  omega
theorem brk_ev (s : ByteArray) (hs : s.size ≤ 2000) : ∃ y : ByteArray, y.size ≤ 10000 ∧ Ev (fun k => tsvCell.f k s) y ∧ ∀ (K : Nat → ByteArray → Option ByteArray) (res : ByteArray), Ev (fun k => K k y) res → Ev (fun k => brk k s (K k)) res := by
  obtain ⟨b4, h4, c4, _⟩ := has_ev s SP4 (by omega) (by decide)
  have h9 := has_one s 9 (by omega)
  have h10 := has_one s 10 (by omega)
  have h34 := has_one s 34 (by omega)
  have hany := any_ev s (by omega)
  have q := quo_ev s (by omega)
  have qd := quoted_ev s (by omega)
  have hz := quotedB_size s hs
  unfold tsvCell.f brk
  by_cases m9 : (9 : UInt8) ∈ s.data.toList
  · refine ⟨quotedB s, hz, Ev.bind (g := fun k => PzzContainsAny.table_zzContainsAny.f k s TNQ) hany (Ev.congr (fun k => if_pos (by simp [m9])) q), fun K res hK => ?_⟩
    exact Ev.bind (g := fun k => spec_has.f k s ⟨#[9]⟩) h9 (Ev.congr (fun k => if_pos (by simp [m9])) (Ev.bind (g := fun k => spec_quoted.f k s) qd hK))
  by_cases m10 : (10 : UInt8) ∈ s.data.toList
  · refine ⟨quotedB s, hz, Ev.bind (g := fun k => PzzContainsAny.table_zzContainsAny.f k s TNQ) hany (Ev.congr (fun k => if_pos (by simp [m10])) q), fun K res hK => ?_⟩
    refine Ev.bind (g := fun k => spec_has.f k s ⟨#[9]⟩) h9 (Ev.congr (fun k => if_neg (by simp [m9])) ?_)
    exact Ev.bind (g := fun k => spec_has.f k s ⟨#[10]⟩) h10 (Ev.congr (fun k => if_pos (by simp [m10])) (Ev.bind (g := fun k => spec_quoted.f k s) qd hK))
  by_cases m34 : (34 : UInt8) ∈ s.data.toList
  · refine ⟨quotedB s, hz, Ev.bind (g := fun k => PzzContainsAny.table_zzContainsAny.f k s TNQ) hany (Ev.congr (fun k => if_pos (by simp [m34])) q), fun K res hK => ?_⟩
    refine Ev.bind (g := fun k => spec_has.f k s ⟨#[9]⟩) h9 (Ev.congr (fun k => if_neg (by simp [m9])) ?_)
    refine Ev.bind (g := fun k => spec_has.f k s ⟨#[10]⟩) h10 (Ev.congr (fun k => if_neg (by simp [m10])) ?_)
    exact Ev.bind (g := fun k => spec_has.f k s ⟨#[34]⟩) h34 (Ev.congr (fun k => if_pos (by simp [m34])) (Ev.bind (g := fun k => spec_quoted.f k s) qd hK))
  cases b4 with
  | true =>
    refine ⟨quotedB s, hz, Ev.bind (g := fun k => PzzContainsAny.table_zzContainsAny.f k s TNQ) hany (Ev.congr (fun k => if_neg (by simp [m9, m10, m34])) (Ev.bind (g := fun k => PzzContains.table_zzContains.f k s SP4) c4 (Ev.congr (fun k => if_pos rfl) q))), fun K res hK => ?_⟩
    refine Ev.bind (g := fun k => spec_has.f k s ⟨#[9]⟩) h9 (Ev.congr (fun k => if_neg (by simp [m9])) ?_)
    refine Ev.bind (g := fun k => spec_has.f k s ⟨#[10]⟩) h10 (Ev.congr (fun k => if_neg (by simp [m10])) ?_)
    refine Ev.bind (g := fun k => spec_has.f k s ⟨#[34]⟩) h34 (Ev.congr (fun k => if_neg (by simp [m34])) ?_)
    exact Ev.bind (g := fun k => spec_has.f k s ⟨#[32, 32, 32, 32]⟩) h4 (Ev.congr (fun k => if_pos rfl) (Ev.bind (g := fun k => spec_quoted.f k s) qd hK))
  | false =>
    refine ⟨s, by omega, Ev.bind (g := fun k => PzzContainsAny.table_zzContainsAny.f k s TNQ) hany (Ev.congr (fun k => if_neg (by simp [m9, m10, m34])) (Ev.bind (g := fun k => PzzContains.table_zzContains.f k s SP4) c4 (Ev.congr (fun k => if_neg (by simp)) (Ev.now _)))), fun K res hK => ?_⟩
    refine Ev.bind (g := fun k => spec_has.f k s ⟨#[9]⟩) h9 (Ev.congr (fun k => if_neg (by simp [m9])) ?_)
    refine Ev.bind (g := fun k => spec_has.f k s ⟨#[10]⟩) h10 (Ev.congr (fun k => if_neg (by simp [m10])) ?_)
    refine Ev.bind (g := fun k => spec_has.f k s ⟨#[34]⟩) h34 (Ev.congr (fun k => if_neg (by simp [m34])) ?_)
    exact Ev.bind (g := fun k => spec_has.f k s ⟨#[32, 32, 32, 32]⟩) h4 (Ev.congr (fun k => if_neg (by simp)) hK)
theorem cells_ev (x0 : List ByteArray) (hx0 : x0.length ≤ 2000) (x1 : Int) (x2 : Bool) (x3 : Int) : ∀ l : List ByteArray, (∀ x ∈ l, x.size ≤ 2000) → ∃ cs : List ByteArray, cs.length = l.length ∧ (∀ y ∈ cs, y.size ≤ 10000) ∧ Ev (fun k => cellsOf k l) cs ∧
    ∀ (p pre : List ByteArray) (res : ByteArray), x0 = p ++ l → pre.length = p.length → Ev (fun k => spec_separated.f k (pre ++ cs) x1 ⟨#[9]⟩ x2 x3) res → Ev (fun k => spec_TsvRow.l0 k x0 x1 x2 x3 pre (p.length : Int)) res := by
  intro l
  induction l with
  | nil =>
    intro _
    refine ⟨[], rfl, fun y hy => by simp at hy, Ev.congr (f := fun _ => some []) (fun k => rfl) (Ev.now _), fun p pre res hp _ h => ?_⟩
    rw [List.append_nil] at h
    refine Ev.step (f := fun k => (spec_separated.f k pre x1 ⟨#[9]⟩ x2 x3).bind fun t => some t) (fun k => ?_) (Ev.bind (g := fun k => spec_separated.f k pre x1 ⟨#[9]⟩ x2 x3) h (Ev.now _))
    simp only [spec_TsvRow.l0]
    rw [if_neg (by rw [hp]; simp)]
  | cons x r ih =>
    intro hz
    obtain ⟨cs, h1, h2, h3, h4⟩ := ih (fun y hy => hz y (by simp [hy]))
    obtain ⟨y, hy, hc, hb⟩ := brk_ev x (hz x (by simp))
    refine ⟨y :: cs, by simp [h1], fun c hcm => ?_, ?_, fun p pre res hp hpl h => ?_⟩
    · rcases List.mem_cons.1 hcm with rfl | hcm
      · exact hy
      · exact h2 c hcm
    · exact Ev.congr (f := fun k => (tsvCell.f k x).bind fun y => (cellsOf k r).bind fun ys => some (y :: ys)) (fun k => rfl) (Ev.bind (g := fun k => tsvCell.f k x) hc (Ev.bind (g := fun k => cellsOf k r) h3 (Ev.now _)))
    · have hlen : x0.length = p.length + r.length + 1 := by rw [hp]; simp; omega
      have hrd : rdOf ByteArray.empty x0 (p.length : Int) = x := by rw [hp]; simp [rdOf, List.getD]
      have nx := h4 (p ++ [x]) (pre ++ [y]) res (by rw [hp]; simp) (by simp [hpl]) (by simpa using h)
      refine Ev.step (f := fun k => brk k x (fun t => if pre.length < 8796093022208 then spec_TsvRow.l0 k x0 x1 x2 x3 (pre ++ [t]) ((p.length + 1 : Nat) : Int) else none)) (fun k => brk_step x0 x1 x2 x3 pre p.length x hrd (by omega) (by omega) k) ?_
      refine hb (fun k t => if pre.length < 8796093022208 then spec_TsvRow.l0 k x0 x1 x2 x3 (pre ++ [t]) ((p.length + 1 : Nat) : Int) else none) res (Ev.congr (f := fun k => spec_TsvRow.l0 k x0 x1 x2 x3 (pre ++ [y]) (((p ++ [x]).length : Nat) : Int)) (fun k => ?_) nx)
      rw [if_pos (by omega), List.length_append]
      rfl

/-! The row. -/
abbrev TAB : ByteArray := ⟨#[9]⟩
theorem tabs_l1 (a1 : Int) (h0 : 0 ≤ a1) (h1 : a1 ≤ 300) : ∀ (d j : Nat) (acc : ByteArray), a1.toNat - j ≤ d → j ≤ 3000 → acc.size + (a1.toNat - j) ≤ 4000000000 → Ev (fun k => spec_separated.l1 k a1 TAB acc (j : Int)) ⟨(acc.data.toList ++ List.replicate (a1.toNat - j) 9).toArray⟩ := by
  have ht : TAB.size = 1 := rfl
  intro d
  induction d with
  | zero =>
    intro j acc hd hj ha
    refine Ev.step (f := fun _ => some acc) (fun k => ?_) (Ev.congr (f := fun _ => some _) (fun k => ?_) (Ev.now _))
    · simp only [spec_separated.l1]
      rw [if_neg (by omega)]
    · congr 1
      apply bytes_ext
      rw [show a1.toNat - j = 0 by omega]
      simp
  | succ d ih =>
    intro j acc hd hj ha
    by_cases hja : (j : Int) < a1
    · have hz : (acc ++ TAB).size = acc.size + 1 := by rw [ByteArray.size_append, ht]
      have nx := ih (j + 1) (acc ++ TAB) (by omega) (by omega) (by omega)
      have e : (acc ++ TAB).data.toList ++ List.replicate (a1.toNat - (j + 1)) 9 = acc.data.toList ++ List.replicate (a1.toNat - j) 9 := by
        rw [data_append, show a1.toNat - j = (a1.toNat - (j + 1)) + 1 by omega, List.replicate_succ, List.append_assoc]
        rfl
      rw [e] at nx
      refine Ev.step (f := fun k => spec_separated.l1 k a1 TAB (acc ++ TAB) ((j + 1 : Nat) : Int)) (fun k => ?_) nx
      simp only [spec_separated.l1]
      rw [if_pos hja, if_pos (by omega), w_succ j (by omega)]
    · exact ih j acc (by omega) hj ha
theorem row_l0 (cs : List ByteArray) (a1 : Int) (idx : Bool) (a3 : Int) (h0 : 0 ≤ a1) (h1 : a1 ≤ 300) (h30 : -9223372036854775808 ≤ a3) (h31 : a3 ≤ 9223372036854775807) (hc : cs.length ≤ 2000) (hz : ∀ y ∈ cs, y.size ≤ 10000) : ∀ (d i : Nat) (acc : ByteArray), cs.length - i ≤ d → i ≤ cs.length → acc.data.toList = rowSt idx (decI a3).data.toList cs i →
    Ev (fun k => spec_separated.l0 k cs a1 TAB idx a3 acc (i : Int)) (tsvText idx (decI a3) cs a1) := by
  have ht : TAB.size = 1 := rfl
  have hn := decI_size a3 (by omega)
  have hn' : (decI a3).data.toList.length ≤ 100 := by rw [← size_list]; omega
  have hlen := rowSt_len idx (decI a3).data.toList cs hn' (fun x hx => by have := hz x hx; omega)
  have hdec := decimal_ev a3 h30 h31
  have fin : ∀ acc : ByteArray, acc.data.toList = rowSt idx (decI a3).data.toList cs cs.length → Ev (fun k => spec_separated.l0 k cs a1 TAB idx a3 acc (cs.length : Int)) (tsvText idx (decI a3) cs a1) := by
    intro acc ha
    have hl := hlen cs.length (by omega)
    rw [← ha, ← size_list] at hl
    have t := tabs_l1 a1 h0 h1 (a1.toNat - cs.length) cs.length acc (by omega) (by omega) (by omega)
    rw [ha] at t
    refine Ev.step (f := fun k => spec_separated.l1 k a1 TAB acc (cs.length : Int)) (fun k => ?_) t
    simp only [spec_separated.l0]
    rw [if_neg (by omega)]
  intro d
  induction d with
  | zero =>
    intro i acc hd hi ha
    obtain rfl : i = cs.length := by omega
    exact fin acc ha
  | succ d ih =>
    intro i acc hd hi ha
    by_cases hil : i < cs.length
    · have hx : cs[i]? = some cs[i] := List.getElem?_eq_getElem hil
      have hxz := hz cs[i] (List.getElem_mem hil)
      have hrd : rdOf ByteArray.empty cs (i : Int) = cs[i] := by simp [rdOf, List.getD, hx]
      have hs := rowSt_succ idx (decI a3).data.toList cs i _ hx
      have hl := hlen i (by omega)
      rw [← ha, ← size_list] at hl
      have hl2 : acc.size ≤ 2100000000 := by omega
      clear hl
      by_cases hi0 : i = 0
      · subst hi0
        have hacc : acc.data.toList = [] := by rw [ha]; simp [rowSt, joinTab]
        have haz : acc.size = 0 := by rw [size_list, hacc]; rfl
        cases idx with
        | true =>
          have nx := ih 1 ((decI a3 ++ TAB) ++ cs[0]) (by omega) (by omega) (by
            rw [hs, ← ha, hacc, data_append, data_append]
            simp [hdT, sepT])
          refine Ev.step (f := fun k => spec_separated.j1 k cs a1 TAB true a3 acc 0 true) (fun k => ?_) (Ev.step (f := fun k => (spec_Decimal.f k a3).bind fun t118 => if t118.size + TAB.size ≤ 9223372036854775807 then (if (t118 ++ TAB).size + cs[0].size ≤ 9223372036854775807 then spec_separated.l0 k cs a1 TAB true a3 ((t118 ++ TAB) ++ cs[0]) 1 else none) else none) (fun k => ?_) (Ev.bind (g := fun k => spec_Decimal.f k a3) hdec (Ev.congr (f := fun k => spec_separated.l0 k cs a1 TAB true a3 ((decI a3 ++ TAB) ++ cs[0]) ((1 : Nat) : Int)) (fun k => ?_) nx)))
          · simp only [spec_separated.l0]
            rw [if_pos (by omega), if_pos (show ((0 : Nat) : Int) = 0 from rfl)]
            rfl
          · simp only [spec_separated.j1]
            rw [if_pos trivial]
            congr 1
            funext t
            have e1 : wrap64 ((0 : Int) + 1) = 1 := by rw [wrap64_id (by omega) (by omega)]; rfl
            have hrd' : rdOf ByteArray.empty cs 0 = cs[0] := hrd
            rw [if_neg (show ¬ (0 : Int) > 0 by omega), if_pos (show (0 : Int) ≤ 0 by omega), if_pos (show (0 : Int) < (cs.length : Int) by omega), hrd', e1]
          · have hz1 : (decI a3 ++ TAB).size = (decI a3).size + 1 := by rw [ByteArray.size_append, ht]
            rw [if_pos (by omega), if_pos (by omega)]
            rfl
        | false =>
          have nx := ih 1 (acc ++ cs[0]) (by omega) (by omega) (by
            rw [hs, ← ha, hacc, data_append, hacc]
            simp [hdT, sepT])
          refine Ev.step (f := fun k => spec_separated.j1 k cs a1 TAB false a3 acc 0 false) (fun k => ?_) (Ev.step (f := fun k => spec_separated.l0 k cs a1 TAB false a3 (acc ++ cs[0]) ((1 : Nat) : Int)) (fun k => ?_) nx)
          · simp only [spec_separated.l0]
            rw [if_pos (by omega), if_pos (show ((0 : Nat) : Int) = 0 from rfl)]
            rfl
          · simp only [spec_separated.j1]
            have e1 : wrap64 ((0 : Int) + 1) = 1 := by rw [wrap64_id (by omega) (by omega)]; rfl
            have hrd' : rdOf ByteArray.empty cs 0 = cs[0] := hrd
            rw [if_neg (by simp), if_neg (show ¬ (0 : Int) > 0 by omega), if_pos (show (0 : Int) ≤ 0 by omega), if_pos (show (0 : Int) < (cs.length : Int) by omega), hrd', e1, if_pos (by omega)]
            rfl
      · have hz1 : (acc ++ TAB).size = acc.size + 1 := by rw [ByteArray.size_append, ht]
        have nx := ih (i + 1) ((acc ++ TAB) ++ cs[i]) (by omega) (by omega) (by
          rw [hs, ← ha, data_append, data_append]
          have e1 : hdT idx (decI a3).data.toList i = [] := by unfold hdT; rw [if_neg (fun e => hi0 e.1)]
          have e2 : sepT i = [9] := by unfold sepT; rw [if_pos (by omega)]
          rw [e1, e2]
          simp)
        refine Ev.step (f := fun k => spec_separated.j1 k cs a1 TAB idx a3 acc (i : Int) false) (fun k => ?_) (Ev.step (f := fun k => spec_separated.l0 k cs a1 TAB idx a3 ((acc ++ TAB) ++ cs[i]) ((i + 1 : Nat) : Int)) (fun k => ?_) nx)
        · simp only [spec_separated.l0]
          rw [if_pos (by omega), if_neg (by omega)]
        · simp only [spec_separated.j1]
          rw [if_neg (by simp), if_pos (by omega), if_pos (by omega), if_pos (by omega), if_pos (by omega), hrd, if_pos (by omega), w_succ i (by omega)]
    · obtain rfl : i = cs.length := by omega
      exact fin acc ha

/-- The law. -/
theorem FnTsvRow : laws_FnTsvRow.Pure := by
  intro l0 a1 a2 a3 _ _ hw3
  obtain ⟨h30, h31⟩ := wf_i64 hw3
  refine Ev.rounds (r := true) ?_
  obtain ⟨b, hb, hev⟩ := fits4_ev l0
  unfold laws_FnTsvRow.f
  refine Ev.bind (g := fun k => laws_zzFits4.f k l0) hev ?_
  have skip : Ev (fun k => laws_FnTsvRow.j0 k l0 a1 a2 a3 true) true := Ev.step (f := fun _ => some true) (fun k => by simp only [laws_FnTsvRow.j0]; rw [if_pos trivial]) (Ev.now _)
  cases b with
  | false => exact Ev.congr (f := fun _ => some true) (fun k => if_neg (by simp)) (Ev.now _)
  | true =>
    obtain ⟨hl, hz⟩ := hb rfl
    refine Ev.congr (fun k => if_pos rfl) ?_
    obtain ⟨b2, hb2, hev2⟩ := texts_l0 l0 hl hz l0 [] 0 rfl (by omega)
    refine Ev.bind (g := fun k => laws_texts.f k l0 2000) (a := b2) hev2 ?_
    cases b2 with
    | false => exact Ev.congr (fun k => if_neg (by simp)) skip
    | true =>
      obtain ⟨hl2, hz2⟩ := hb2 rfl
      refine Ev.congr (fun k => if_pos rfl) ?_
      by_cases ha : a1 < 0
      · exact Ev.congr (fun k => if_pos ha) skip
      refine Ev.congr (fun k => if_neg ha) ?_
      by_cases ha2 : a1 > 300
      · rw [decide_eq_true ha2]
        exact skip
      rw [decide_eq_false ha2]
      obtain ⟨cs, g1, g2, g3, g4⟩ := cells_ev l0 (by omega) a1 a2 a3 l0 hz2
      have hrow := row_l0 cs a1 a2 a3 (by omega) (by omega) h30 h31 (by omega) g2 cs.length 0 ⟨#[]⟩ (by omega) (by omega) (by simp [rowSt, joinTab])
      have hspec := g4 [] [] _ rfl rfl hrow
      have hn := decI_size a3 (by omega)
      have himp : Ev (fun k => impl_TsvRow.f k l0 a1 a2 a3) (tsvText a2 (decI a3) cs a1) := by
        unfold impl_TsvRow.f
        refine Ev.bind (g := fun k => table_ZzTsvRow.f k l0 a1 a2 a3) ?_ (Ev.now _)
        unfold table_ZzTsvRow.f
        refine Ev.bind (g := fun k => cellsOf k l0) g3 ?_
        refine Ev.bind (g := fun _ => PItoa.lightstrconv_Itoa.f a3) (Ev.congr (f := fun _ => some (decI a3)) (fun _ => itoa_eq a3 h30 h31) (Ev.now _)) (Ev.congr (f := fun _ => some _) (fun k => if_pos ⟨fun y hy => by have := g2 y hy; omega, by omega, by omega, by omega, by omega⟩) (Ev.now _))
      refine Ev.step (f := fun k => (impl_TsvRow.f k l0 a1 a2 a3).bind fun t150 => (spec_TsvRow.f k l0 a1 a2 a3).bind fun t151 => some (t150.toList == t151.toList)) (fun k => ?_) (Ev.bind (g := fun k => impl_TsvRow.f k l0 a1 a2 a3) himp (Ev.bind (g := fun k => spec_TsvRow.f k l0 a1 a2 a3) hspec (Ev.congr (f := fun _ => some true) (fun k => by simp) (Ev.now _))))
      simp only [laws_FnTsvRow.j0]
      rw [if_neg (by simp)]
end Go.Proofs.Ytimefacdnabkdab.Pure
