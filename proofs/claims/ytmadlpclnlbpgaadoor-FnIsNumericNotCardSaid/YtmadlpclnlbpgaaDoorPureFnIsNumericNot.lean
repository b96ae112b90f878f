/- A text with a letter that no number has is not numeric, a digit is: the law's function answers true. -/
import Derived.Test.YtmadlpclnlbpgaaDoorPFnIsNumericNotx1
import Derived.Test.YtmadlpclnlbpgaaDoorBase
namespace Go.Proofs.YtmadlpclnlbpgaaDoor.Pure
open Go.RowKit Go.Proofs.YtmadlpclnlbpgaaDoor.PFnIsNumericNot Go.Proofs.YtmadlpclnlbpgaaDoorW.PrintWords Go.Proofs.YtmadlpclnlbpgaaDoorW.PrintLast Go.Proofs.YtmadlpclnlbpgaaDoorW.PrintMore
open Go.Proofs.YtmadlpclnlbpgaaDoor.Base Go.Proofs.YtmadlpclnlbpgaaDoor.Hand
set_option linter.unusedSimpArgs false
set_option linter.unusedVariables false

/-- What is plain is ASCII. -/
theorem plain_l0 (s : ByteArray) (hs : s.size ≤ 2147483647) : ∀ (d i : Nat), i + d = s.size →
    ∃ b, Ev (fun k => spec_TwPlain.l0 k s (i : Int)) b ∧ (b = true → ∀ c ∈ s.data.toList.drop i, c.toNat ≤ 126) := by
  intro d
  induction d with
  | zero =>
    intro i h
    refine ⟨true, Ev.step (f := fun _ => some true) (fun k => ?_) (Ev.now _), fun _ c hc => ?_⟩
    · simp only [spec_TwPlain.l0]
      rw [if_neg (by omega)]
    · rw [List.drop_eq_nil_of_le (by rw [← size_list]; omega)] at hc
      cases hc
  | succ d ih =>
    intro i h
    have hi : i < s.data.toList.length := by rw [← size_list]; omega
    have hb : bt s (i : Int) = ((s.data.toList[i]).toNat : Int) := by
      rw [bt_list, Int.toNat_natCast, List.getD, List.getElem?_eq_getElem hi]
      rfl
    by_cases h1 : bt s (i : Int) < 32
    · refine ⟨false, Ev.step (f := fun _ => some false) (fun k => ?_) (Ev.now _), fun h => by cases h⟩
      simp only [spec_TwPlain.l0]
      rw [if_pos (by omega), if_pos (by omega), if_pos h1]
    · by_cases h2 : bt s (i : Int) > 126
      · refine ⟨false, Ev.step (f := fun _ => some false) (fun k => ?_) (Ev.now _), fun h => by cases h⟩
        simp only [spec_TwPlain.l0]
        rw [if_pos (by omega), if_pos (by omega), if_neg h1, if_pos h2]
      · obtain ⟨b, e, g⟩ := ih (i + 1) (by omega)
        refine ⟨b, Ev.step (f := fun k => spec_TwPlain.l0 k s ((i + 1 : Nat) : Int)) (fun k => ?_) e, fun hb2 c hc => ?_⟩
        · simp only [spec_TwPlain.l0]
          rw [if_pos (by omega), if_pos (by omega), if_neg h1, if_neg h2, wrap64_id (by omega) (by omega)]
          rfl
        · rw [List.drop_eq_getElem_cons hi] at hc
          rcases List.mem_cons.1 hc with e2 | e2
          · rw [e2]; omega
          · exact g hb2 c e2
theorem plain_some (s : ByteArray) (hs : s.size ≤ 2147483647) : ∃ b, Ev (fun k => spec_TwPlain.f k s) b ∧ (b = true → Ascii s) := by
  obtain ⟨b, e, g⟩ := plain_l0 s hs s.size 0 (by omega)
  exact ⟨b, e, fun h c hc => by have := g h c (by simpa using hc); omega⟩
theorem ascii_b {s : ByteArray} (h : Ascii s) : asciiB s = true := List.all_eq_true.2 fun b hb => decide_eq_true (h b hb)

/-- The letter that is set in. -/
def letter (n : Int) : ByteArray := (⟨#[103, 106, 107, 108, 109, 111, 113, 114, 115, 117, 118, 119, 122, 71, 74, 75, 76, 77, 79, 81, 82, 83, 85, 86, 87, 90, 33, 63, 44, 59, 58, 40, 41]⟩ : ByteArray).extract ((Int.tmod (wrap64 n) 33) : Int).toNat ((wrap64 ((Int.tmod (wrap64 n) 33) + 1)) : Int).toNat
/-- The digit that is asked. -/
def digit1 (n : Int) : ByteArray := (⟨#[48, 49, 50, 51, 52, 53, 54, 55, 56, 57]⟩ : ByteArray).extract ((Int.tmod n 10) : Int).toNat ((((Int.tmod n 10) + 1) % 256) : Int).toNat
theorem letter_facts (n : Int) (h0 : 0 ≤ n) (h1 : n ≤ 255) : 0 ≤ Int.tmod (wrap64 n) 33 ∧ Int.tmod (wrap64 n) 33 ≤ wrap64 (Int.tmod (wrap64 n) 33 + 1) ∧ wrap64 (Int.tmod (wrap64 n) 33 + 1) ≤ 33 ∧ (letter n).data.toList.length = 1 ∧ (letter n).data.toList.any badL = true ∧ (letter n).data.toList.all (fun b => decide (b.toNat < 128)) = true := by
  have key : ∀ m : Fin 256, 0 ≤ Int.tmod (wrap64 (m.val : Int)) 33 ∧ Int.tmod (wrap64 (m.val : Int)) 33 ≤ wrap64 (Int.tmod (wrap64 (m.val : Int)) 33 + 1) ∧ wrap64 (Int.tmod (wrap64 (m.val : Int)) 33 + 1) ≤ 33 ∧ (letter (m.val : Int)).data.toList.length = 1 ∧ (letter (m.val : Int)).data.toList.any badL = true ∧ (letter (m.val : Int)).data.toList.all (fun b => decide (b.toNat < 128)) = true := by decide +kernel
  have := key ⟨n.toNat, by omega⟩
  rw [show ((n.toNat : Nat) : Int) = n by omega] at this
  exact this
theorem digit_facts (n : Int) (h0 : 0 ≤ n) (h1 : n ≤ 255) : 0 ≤ Int.tmod n 10 ∧ Int.tmod n 10 ≤ (Int.tmod n 10 + 1) % 256 ∧ (Int.tmod n 10 + 1) % 256 ≤ 10 ∧ oneDig (digit1 n) = true := by
  have key : ∀ m : Fin 256, 0 ≤ Int.tmod (m.val : Int) 10 ∧ Int.tmod (m.val : Int) 10 ≤ (Int.tmod (m.val : Int) 10 + 1) % 256 ∧ (Int.tmod (m.val : Int) 10 + 1) % 256 ≤ 10 ∧ oneDig (digit1 (m.val : Int)) = true := by decide +kernel
  have := key ⟨n.toNat, by omega⟩
  rw [show ((n.toNat : Nat) : Int) = n by omega] at this
  exact this
theorem numeric_j1 (a b : ByteArray) (n : Int) (ha : Ascii a) (hb : Ascii b) (hs : a.size + b.size ≤ 200) (h0 : 0 ≤ n) (h1 : n ≤ 255) : Ev (fun k => laws_FnIsNumericNot.j1 k a b n false) true := by
  refine Ev.step (f := fun _ => some true) (fun k => ?_) (Ev.now _)
  obtain ⟨l1, l2, l3, l4, l5, l6⟩ := letter_facts n h0 h1
  obtain ⟨d1, d2, d3, d4⟩ := digit_facts n h0 h1
  simp only [laws_FnIsNumericNot.j1]
  change (if false = true then (some true) else (if _ then (if _ then (if _ then (if a.size + (letter n).size ≤ _ then (if (a ++ letter n).size + b.size ≤ _ then ((impl_TwIsNumeric.f ((a ++ letter n) ++ b)).bind fun t103 => (if t103 = true then (some false) else (if _ then (if _ then (if _ then ((impl_TwIsNumeric.f (digit1 n)).bind fun t104 => (some t104)) else (none)) else (none)) else (none)))) else (none)) else (none)) else (none)) else (none)) else (none))) = _
  have hl : (letter n).size = 1 := by rw [size_list]; exact l4
  have hsz : (a ++ letter n).size = a.size + 1 := by rw [ByteArray.size_append, hl]
  have hall : ((a ++ letter n) ++ b).data.toList = a.data.toList ++ (letter n).data.toList ++ b.data.toList := by rw [data_append, data_append]
  have hbl : ∀ c, badL c = true → (c.toNat < 48 ∨ 57 < c.toNat) := fun c h => (bad_of h).dig
  have hf1 : impl_TwIsNumeric.f ((a ++ letter n) ++ b) = some false := by
    unfold impl_TwIsNumeric.f
    obtain ⟨c, hc, hcb⟩ := List.any_eq_true.1 l5
    have hmem : c ∈ ((a ++ letter n) ++ b).data.toList := by rw [hall]; exact List.mem_append_left _ (List.mem_append_right _ hc)
    have hc0 : (a ++ letter n ++ b).size ≤ 1000000 := by rw [ByteArray.size_append, hsz]; omega
    have hn : ¬ oneDig (a ++ letter n ++ b) = true := by
      intro h
      unfold oneDig at h
      split at h
      · rename_i d hd
        rw [hd] at hmem
        have : c = d := by simpa using hmem
        simp only [Bool.and_eq_true, decide_eq_true_eq] at h
        have := hbl c hcb
        subst c
        omega
      · cases h
    have hx1 : asciiB (a ++ letter n ++ b) = true := by
      refine ascii_b (fun x hx => ?_)
      rw [hall] at hx
      rcases List.mem_append.1 hx with hx | hx
      · rcases List.mem_append.1 hx with hx | hx
        · exact ha x hx
        · exact of_decide_eq_true (List.all_eq_true.1 l6 x hx)
      · exact hb x hx
    rw [if_neg hn, if_pos ⟨hc0, hx1, List.any_eq_true.2 ⟨c, hmem, hcb⟩⟩]
  have hf2 : impl_TwIsNumeric.f (digit1 n) = some true := by
    unfold impl_TwIsNumeric.f
    rw [if_pos d4]
  rw [if_neg (by decide), if_pos l1, if_pos l2, if_pos l3, if_pos (by rw [hl]; omega), if_pos (by rw [hsz]; omega), hf1]
  simp only [Option.bind_some]
  rw [if_neg (by decide), if_pos d1, if_pos d2, if_pos d3, hf2]
  rfl
theorem j1_yes (a b : ByteArray) (n : Int) : Ev (fun k => laws_FnIsNumericNot.j1 k a b n true) true := by
  refine Ev.step (f := fun _ => some true) (fun k => ?_) (Ev.now _)
  simp only [laws_FnIsNumericNot.j1]
  rw [if_pos True.intro]
theorem j0_yes (a b : ByteArray) (n : Int) : Ev (fun k => laws_FnIsNumericNot.j0 k a b n true) true := by
  refine Ev.step (f := fun _ => some true) (fun k => ?_) (Ev.now _)
  simp only [laws_FnIsNumericNot.j0]
  rw [if_pos True.intro]
theorem j0_no (a b : ByteArray) (n : Int) (ha : a.size ≤ 2147483647) (hb : b.size ≤ 2147483647) (h0 : 0 ≤ n) (h1 : n ≤ 255) : Ev (fun k => laws_FnIsNumericNot.j0 k a b n false) true := by
  obtain ⟨p, e, g⟩ := plain_some a ha
  obtain ⟨p2, e2, g2⟩ := plain_some b hb
  refine Ev.step (f := fun k => (spec_TwPlain.f k a).bind fun t101 => (if t101 = true then ((spec_TwPlain.f k b).bind fun t102 => (if t102 = true then (laws_FnIsNumericNot.j1 k a b n (decide ((wrap64 ((a.size : Int) + (b.size : Int))) > 200))) else (laws_FnIsNumericNot.j1 k a b n true))) else (laws_FnIsNumericNot.j1 k a b n true))) (fun k => ?_) (Ev.bind e ?_)
  · simp only [laws_FnIsNumericNot.j0]
    rw [if_neg (by decide)]
  · cases p with
    | false => exact Ev.congr (fun k => by rw [if_neg (by decide)]) (j1_yes a b n)
    | true =>
      refine Ev.congr (fun k => by rw [if_pos rfl]) (Ev.bind e2 ?_)
      cases p2 with
      | false => exact Ev.congr (fun k => by rw [if_neg (by decide)]) (j1_yes a b n)
      | true =>
        refine Ev.congr (fun k => by rw [if_pos rfl]) ?_
        by_cases h : wrap64 ((a.size : Int) + (b.size : Int)) > 200
        · rw [decide_eq_true h]; exact j1_yes a b n
        · rw [decide_eq_false h]
          rw [wrap64_id (by omega) (by omega)] at h
          exact numeric_j1 a b n (g rfl) (g2 rfl) (by omega) h0 h1

/- ∀ (a0 : ByteArray) (a1 : ByteArray) (a2 : Int), a0.size ≤ 140737488351232 → a1.size ≤ 140737488351232 → (Lit.int .u8 a2).wf = true → ∃ k, laws_FnIsNumericNot.f k a0 a1 a2 = some true -/
theorem FnIsNumericNot : laws_FnIsNumericNot.Pure := by
  intro a b n _ _ hn
  obtain ⟨n0, n1⟩ := wf_u8 hn
  have go : Ev (fun k => laws_FnIsNumericNot.f k a b n) true := by
    by_cases h1 : (a.size : Int) > 2147483647
    · exact Ev.congr (fun k => by unfold laws_FnIsNumericNot.f; rw [if_pos h1]) (j0_yes a b n)
    · refine Ev.congr (fun k => by unfold laws_FnIsNumericNot.f; rw [if_neg h1]) ?_
      by_cases h2 : (b.size : Int) > 2147483647
      · rw [decide_eq_true h2]; exact j0_yes a b n
      · rw [decide_eq_false h2]; exact j0_no a b n (by omega) (by omega) n0 n1
  exact go.rounds

end Go.Proofs.YtmadlpclnlbpgaaDoor.Pure
