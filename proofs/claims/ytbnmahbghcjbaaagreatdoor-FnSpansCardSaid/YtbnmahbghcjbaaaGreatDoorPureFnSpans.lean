/- A plain text, as spans, is its text, escaped: the law's function answers true. -/
import Derived.Test.YtbnmahbghcjbaaaGreatDoorPFnSpansx1
import Derived.Test.YtbnmahbghcjbaaaGreatDoorBase
namespace Go.Proofs.YtbnmahbghcjbaaaGreatDoor.Pure
open Go.RowKit Go.Proofs.YtbnmahbghcjbaaaGreatDoor.PFnSpans Go.Proofs.YtbnmahbghcjbaaaGreatDoorW.PrintWords Go.Proofs.YtbnmahbghcjbaaaGreatDoorW.PrintLast Go.Proofs.YtbnmahbghcjbaaaGreatDoorW.PrintMore
open Go.Proofs.YtbnmahbghcjbaaaGreatDoor.Base Go.Proofs.YtbnmahbghcjbaaaGreatDoor.Hand
set_option linter.unusedSimpArgs false
set_option linter.unusedVariables false

theorem bt_at (s : ByteArray) (i : Nat) (hi : i < s.data.toList.length) : bt s (i : Int) = ((s.data.toList[i]).toNat : Int) := by
  rw [bt_list, Int.toNat_natCast, List.getD, List.getElem?_eq_getElem hi]
  rfl
theorem plain_l0 (s : ByteArray) (hs : s.size ≤ 2147483647) : ∀ (d i : Nat), i + d = s.size →
    ∃ b, Ev (fun k => spec_Plain.l0 k s (i : Int)) b ∧ (b = true → ∀ c ∈ s.data.toList.drop i, c.toNat < 128 ∧ c.toNat ≠ 27) := by
  intro d
  induction d with
  | zero =>
    intro i h
    refine ⟨true, Ev.step (f := fun _ => some true) (fun k => ?_) (Ev.now _), fun _ c hc => ?_⟩
    · simp only [spec_Plain.l0]
      rw [if_neg (by omega)]
    · rw [List.drop_eq_nil_of_le (by rw [← size_list]; omega)] at hc
      cases hc
  | succ d ih =>
    intro i h
    have hi : i < s.data.toList.length := by rw [← size_list]; omega
    have hb := bt_at s i hi
    obtain ⟨b, e, g⟩ := ih (i + 1) (by omega)
    have step : (bt s (i : Int) = 10 ∨ (¬ bt s (i : Int) < 32 ∧ ¬ bt s (i : Int) > 126)) → (∀ k, spec_Plain.l0 (k + 1) s (i : Int) = spec_Plain.l0 k s ((i + 1 : Nat) : Int)) → ∃ b, Ev (fun k => spec_Plain.l0 k s (i : Int)) b ∧ (b = true → ∀ c ∈ s.data.toList.drop i, c.toNat < 128 ∧ c.toNat ≠ 27) := by
      intro hc hk
      refine ⟨b, Ev.step (f := fun k => spec_Plain.l0 k s ((i + 1 : Nat) : Int)) hk e, fun hb2 c hm => ?_⟩
      rw [List.drop_eq_getElem_cons hi] at hm
      rcases List.mem_cons.1 hm with e2 | e2
      · rw [e2]; omega
      · exact g hb2 c e2
    by_cases h10 : bt s (i : Int) = 10
    · refine step (Or.inl h10) (fun k => ?_)
      simp only [spec_Plain.l0]
      rw [if_pos (by omega), if_pos (by omega), if_pos h10, wrap64_id (by omega) (by omega)]
      rfl
    by_cases h1 : bt s (i : Int) < 32
    · refine ⟨false, Ev.step (f := fun _ => some false) (fun k => ?_) (Ev.now _), fun h => by cases h⟩
      simp only [spec_Plain.l0]
      rw [if_pos (by omega), if_pos (by omega), if_neg h10, if_pos h1]
    by_cases h2 : bt s (i : Int) > 126
    · refine ⟨false, Ev.step (f := fun _ => some false) (fun k => ?_) (Ev.now _), fun h => by cases h⟩
      simp only [spec_Plain.l0]
      rw [if_pos (by omega), if_pos (by omega), if_neg h10, if_neg h1, if_pos h2]
    refine step (Or.inr ⟨h1, h2⟩) (fun k => ?_)
    simp only [spec_Plain.l0]
    rw [if_pos (by omega), if_pos (by omega), if_neg h10, if_neg h1, if_neg h2, wrap64_id (by omega) (by omega)]
    rfl
theorem plain_some (s : ByteArray) (hs : s.size ≤ 2147483647) : ∃ b, Ev (fun k => spec_Plain.f k s) b ∧ (b = true → PlainS s) := by
  obtain ⟨b, e, g⟩ := plain_l0 s hs s.size 0 (by omega)
  exact ⟨b, e, fun h c hc => g h c (by simpa using hc)⟩
theorem cut_one (s : ByteArray) (i : Nat) (hi : i < s.data.toList.length) : (s.extract i (i + 1)).data.toList = [s.data.toList[i]] := by
  rw [ByteArray.data_extract, Array.toList_extract, List.extract_eq_take_drop, Nat.add_sub_cancel_left, List.drop_eq_getElem_cons hi]
  rfl
theorem escaped_l0 (s : ByteArray) (hs : s.size ≤ 1000) : ∀ (d i : Nat) (o : ByteArray), i + d = s.size → o.size ≤ 5 * i →
    ∃ r, Ev (fun k => spec_Escaped.l0 k s o (i : Int)) r ∧ r.data.toList = o.data.toList ++ escL (s.data.toList.drop i) := by
  intro d
  induction d with
  | zero =>
    intro i o h ho
    refine ⟨o, Ev.step (f := fun _ => some o) (fun k => ?_) (Ev.now _), ?_⟩
    · simp only [spec_Escaped.l0]
      rw [if_neg (by omega)]
    · rw [List.drop_eq_nil_of_le (by rw [← size_list]; omega)]
      simp [escL]
  | succ d ih =>
    intro i o h ho
    have hi : i < s.data.toList.length := by rw [← size_list]; omega
    have hb := bt_at s i hi
    obtain ⟨c, hc⟩ : ∃ c, s.data.toList[i] = c := ⟨_, rfl⟩
    rw [hc] at hb
    have hd : s.data.toList.drop i = c :: s.data.toList.drop (i + 1) := by rw [List.drop_eq_getElem_cons hi, hc]
    have w1 : wrap64 ((i : Int) + 1) = ((i + 1 : Nat) : Int) := by rw [wrap64_id (by omega) (by omega)]; rfl
    have go : ∀ x : ByteArray, x.data.toList = escB c → (∀ k, spec_Escaped.l0 (k + 1) s o (i : Int) = spec_Escaped.l0 k s (o ++ x) ((i + 1 : Nat) : Int)) →
        ∃ r, Ev (fun k => spec_Escaped.l0 k s o (i : Int)) r ∧ r.data.toList = o.data.toList ++ escL (s.data.toList.drop i) := by
      intro x hx hk
      have hxs : x.size ≤ 5 := by rw [size_list, hx]; exact (escB_len c).2
      obtain ⟨r, e, g⟩ := ih (i + 1) (o ++ x) (by omega) (by rw [ByteArray.size_append]; omega)
      refine ⟨r, Ev.step (f := fun k => spec_Escaped.l0 k s (o ++ x) ((i + 1 : Nat) : Int)) hk e, ?_⟩
      rw [g, data_append, hx, hd, List.append_assoc]
      rfl
    have key : ∀ (n : Nat), n < 256 → (bt s (i : Int) = (n : Int) ↔ c = UInt8.ofNat n) := by
      intro n hn
      rw [hb, ← UInt8.toNat_inj]
      have : (UInt8.ofNat n).toNat = n := by simp; omega
      rw [this]
      omega
    have k38 : bt s (i : Int) = 38 ↔ c = 38 := key 38 (by decide)
    have k60 : bt s (i : Int) = 60 ↔ c = 60 := key 60 (by decide)
    have k62 : bt s (i : Int) = 62 ↔ c = 62 := key 62 (by decide)
    have k34 : bt s (i : Int) = 34 ↔ c = 34 := key 34 (by decide)
    have k39 : bt s (i : Int) = 39 ↔ c = 39 := key 39 (by decide)
    have hlt : (i : Int) < (s.size : Int) := by omega
    have h0 : (0 : Int) ≤ (i : Int) := by omega
    by_cases h38 : c = 38
    · refine go ⟨#[38, 97, 109, 112, 59]⟩ (by rw [h38]; rfl) (fun k => ?_)
      simp only [spec_Escaped.l0]
      rw [if_pos hlt, if_pos h0, if_pos (k38.2 h38), if_pos (by omega), w1]
    by_cases h60 : c = 60
    · refine go ⟨#[38, 108, 116, 59]⟩ (by rw [h60]; rfl) (fun k => ?_)
      simp only [spec_Escaped.l0]
      rw [if_pos hlt, if_pos h0, if_neg (fun e => h38 (k38.1 e)), if_pos (k60.2 h60), if_pos (by omega), w1]
    by_cases h62 : c = 62
    · refine go ⟨#[38, 103, 116, 59]⟩ (by rw [h62]; rfl) (fun k => ?_)
      simp only [spec_Escaped.l0]
      rw [if_pos hlt, if_pos h0, if_neg (fun e => h38 (k38.1 e)), if_neg (fun e => h60 (k60.1 e)), if_pos (k62.2 h62), if_pos (by omega), w1]
    by_cases h34 : c = 34
    · refine go ⟨#[38, 35, 51, 52, 59]⟩ (by rw [h34]; rfl) (fun k => ?_)
      simp only [spec_Escaped.l0]
      rw [if_pos hlt, if_pos h0, if_neg (fun e => h38 (k38.1 e)), if_neg (fun e => h60 (k60.1 e)), if_neg (fun e => h62 (k62.1 e)), if_pos (k34.2 h34), if_pos (by omega), w1]
    by_cases h39 : c = 39
    · refine go ⟨#[38, 35, 51, 57, 59]⟩ (by rw [h39]; rfl) (fun k => ?_)
      simp only [spec_Escaped.l0]
      rw [if_pos hlt, if_pos h0, if_neg (fun e => h38 (k38.1 e)), if_neg (fun e => h60 (k60.1 e)), if_neg (fun e => h62 (k62.1 e)), if_neg (fun e => h34 (k34.1 e)), if_pos (k39.2 h39), if_pos (by omega), w1]
    have hx : (s.extract i (i + 1)).data.toList = escB c := by
      rw [cut_one s i hi, hc]
      unfold escB
      rw [if_neg h60, if_neg h62, if_neg h38, if_neg h34, if_neg h39]
    have hxs : (s.extract i (i + 1)).size ≤ 5 := by rw [size_list, hx]; exact (escB_len c).2
    refine go (s.extract i (i + 1)) hx (fun k => ?_)
    simp only [spec_Escaped.l0]
    rw [if_pos hlt, if_pos h0, if_neg (fun e => h38 (k38.1 e)), if_neg (fun e => h60 (k60.1 e)), if_neg (fun e => h62 (k62.1 e)), if_neg (fun e => h34 (k34.1 e)), if_neg (fun e => h39 (k39.1 e)), w1, if_pos (by omega), if_pos (by omega)]
    simp only [Int.toNat_natCast]
    rw [if_pos (by omega)]
theorem j0_yes (s : ByteArray) : Ev (fun k => laws_FnSpans.j0 k s true) true := by
  refine Ev.step (f := fun _ => some true) (fun k => ?_) (Ev.now _)
  simp only [laws_FnSpans.j0]
  rw [if_pos True.intro]
theorem j0_no (s : ByteArray) (hs : s.size ≤ 1000) (hp : PlainS s) : Ev (fun k => laws_FnSpans.j0 k s false) true := by
  obtain ⟨r, e, g⟩ := escaped_l0 s hs s.size 0 ⟨#[]⟩ (by omega) (Nat.le_refl 0)
  have hr : r = ⟨(escL s.data.toList).toArray⟩ := bytes_ext (by rw [g]; rfl)
  have hf : impl_Spans.f s = some r := by
    unfold impl_Spans.f
    rw [if_pos ⟨hs, List.all_eq_true.2 fun b hb => by have := hp b hb; simpa using this⟩, hr]
  refine Ev.step (f := fun k => (spec_Escaped.f k s).bind fun t103 => (some (r.toList == t103.toList))) (fun k => ?_) (Ev.bind (a := r) e ?_)
  · simp only [laws_FnSpans.j0]
    rw [if_neg (by decide), hf]
    rfl
  · exact Ev.congr (fun k => by rw [beq_self_eq_true]) (Ev.now _)

/- ∀ (a0 : ByteArray), a0.size ≤ 140737488351232 → ∃ k, laws_FnSpans.f k a0 = some true -/
theorem FnSpans : laws_FnSpans.Pure := by
  intro s _
  have go : Ev (fun k => laws_FnSpans.f k s) true := by
    by_cases h1 : (s.size : Int) > 2147483647
    · refine Ev.congr (f := fun _ => some true) (fun k => ?_) (Ev.now _)
      unfold laws_FnSpans.f
      rw [if_pos h1]
    by_cases h2 : (s.size : Int) > 1000
    · exact Ev.congr (fun k => by unfold laws_FnSpans.f; rw [if_neg h1, if_pos h2]) (j0_yes s)
    · obtain ⟨b, e, g⟩ := plain_some s (by omega)
      refine Ev.congr (fun k => by unfold laws_FnSpans.f; rw [if_neg h1, if_neg h2]) (Ev.bind e ?_)
      cases b with
      | false => exact j0_yes s
      | true => exact j0_no s (by omega) (g rfl)
  exact go.rounds

end Go.Proofs.YtbnmahbghcjbaaaGreatDoor.Pure
