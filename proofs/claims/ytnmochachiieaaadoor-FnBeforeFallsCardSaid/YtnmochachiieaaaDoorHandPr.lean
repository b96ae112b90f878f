/- The printed functions fold and underscores answer at every text. -/
import Derived.Test.YtnmochachiieaaaDoorPFnBeforeFallsx3
import Derived.Test.YtnmochachiieaaaDoorBase
namespace Go.Proofs.YtnmochachiieaaaDoor.PFnBeforeFalls
open Go.RowKit Go.Proofs.YtnmochachiieaaaDoorW.PrintWords Go.Proofs.YtnmochachiieaaaDoorW.PrintLast Go.Proofs.YtnmochachiieaaaDoorW.PrintMore Go.Proofs.YtnmochachiieaaaDoor.Base
set_option linter.unusedVariables false
set_option linter.unusedSimpArgs false
def Tot {α : Type} (o : Option α) : Prop := ∃ r, o = some r
theorem Tot.some' {α : Type} (x : α) : Tot (some x) := ⟨x, rfl⟩
theorem Tot.ite {α : Type} {c : Prop} [Decidable c] {a b : Option α} (ha : c → Tot a) (hb : ¬ c → Tot b) : Tot (if c then a else b) := by
  by_cases h : c
  · rw [if_pos h]; exact ha h
  · rw [if_neg h]; exact hb h
theorem w_suc {i : Nat} (h : i ≤ 1000000) : wrap64 ((i : Int) + 1) = ((i + 1 : Nat) : Int) := by rw [wrap64_id (by omega) (by omega)]; omega
theorem fold_l0 (s t : ByteArray) (h : s.size = t.size) (hs : s.size ≤ 100000) : ∀ (n i : Nat), i + n = s.size → ∀ k, 2 * n + 1 ≤ k → Tot (lightstrconv_fold.l0 k s t (i : Int))
  | 0, i, hi, k, hk => by
    obtain ⟨k, rfl⟩ : ∃ q, k = q + 1 := ⟨k - 1, by omega⟩
    rw [lightstrconv_fold.l0, if_neg (by omega)]
    exact Tot.some' _
  | n + 1, i, hi, k, hk => by
    obtain ⟨k, rfl⟩ : ∃ q, k = q + 1 := ⟨k - 1, by omega⟩
    have ih := fold_l0 s t h hs n (i + 1) (by omega)
    have hj : ∀ k q b, 2 * n + 2 ≤ k → Tot (lightstrconv_fold.j1 k s t (i : Int) q b) := by
      intro k q b hk
      obtain ⟨k, rfl⟩ : ∃ q, k = q + 1 := ⟨k - 1, by omega⟩
      rw [lightstrconv_fold.j1, w_suc (by omega)]
      repeat' first
        | exact ih _ (by omega)
        | exact Tot.some' _
        | refine Tot.ite (fun _ => ?_) (fun _ => ?_)
        | (exfalso; omega)
    rw [lightstrconv_fold.l0]
    repeat' first
      | exact hj _ _ _ (by omega)
      | exact Tot.some' _
      | refine Tot.ite (fun _ => ?_) (fun _ => ?_)
      | (exfalso; omega)
theorem fold_tot (s t : ByteArray) (hs : s.size ≤ 100000) : ∃ k, Tot (lightstrconv_fold.f k s t) := by
  refine ⟨2 * s.size + 1, ?_⟩
  unfold lightstrconv_fold.f
  refine Tot.ite (fun h => ?_) (fun _ => Tot.some' _)
  exact fold_l0 s t (by omega) hs s.size 0 (by omega) _ (Nat.le_refl _)
theorem us_l0 (s : ByteArray) (hs : s.size ≤ 100000) : ∀ (n i : Nat), i + n = s.size → ∀ k x3 x4, 4 * n + 1 ≤ k → Tot (lightstrconv_underscoreOK.l0 k s x3 x4 (i : Int))
  | 0, i, hi, k, x3, x4, hk => by
    obtain ⟨k, rfl⟩ : ∃ q, k = q + 1 := ⟨k - 1, by omega⟩
    rw [lightstrconv_underscoreOK.l0, if_neg (by omega)]
    exact Tot.some' _
  | n + 1, i, hi, k, x3, x4, hk => by
    obtain ⟨k, rfl⟩ : ∃ q, k = q + 1 := ⟨k - 1, by omega⟩
    have ih := us_l0 s hs n (i + 1) (by omega)
    have h7 : ∀ k x4 x6 b, 4 * n + 2 ≤ k → Tot (lightstrconv_underscoreOK.j7 k s x4 (i : Int) x6 b) := by
      intro k x4 x6 b hk
      obtain ⟨k, rfl⟩ : ∃ q, k = q + 1 := ⟨k - 1, by omega⟩
      rw [lightstrconv_underscoreOK.j7, w_suc (by omega)]
      repeat' first
        | exact ih _ _ _ (by omega)
        | exact Tot.some' _
        | refine Tot.ite (fun _ => ?_) (fun _ => ?_)
        | (exfalso; omega)
    have h6 : ∀ k x3 x4 x6 b, 4 * n + 3 ≤ k → Tot (lightstrconv_underscoreOK.j6 k s x3 x4 (i : Int) x6 b) := by
      intro k x3 x4 x6 b hk
      obtain ⟨k, rfl⟩ : ∃ q, k = q + 1 := ⟨k - 1, by omega⟩
      rw [lightstrconv_underscoreOK.j6]
      repeat' first
        | exact h7 _ _ _ _ (by omega)
        | exact Tot.some' _
        | refine Tot.ite (fun _ => ?_) (fun _ => ?_)
        | (exfalso; omega)
    have h5 : ∀ k x3 x4 x6 b, 4 * n + 4 ≤ k → Tot (lightstrconv_underscoreOK.j5 k s x3 x4 (i : Int) x6 b) := by
      intro k x3 x4 x6 b hk
      obtain ⟨k, rfl⟩ : ∃ q, k = q + 1 := ⟨k - 1, by omega⟩
      rw [lightstrconv_underscoreOK.j5, w_suc (by omega)]
      repeat' first
        | exact ih _ _ _ (by omega)
        | exact h6 _ _ _ _ _ (by omega)
        | exact Tot.some' _
        | refine Tot.ite (fun _ => ?_) (fun _ => ?_)
        | (exfalso; omega)
    rw [lightstrconv_underscoreOK.l0]
    simp only [lightstrconv_lower.f, Option.bind_some]
    repeat' first
      | exact h5 _ _ _ _ _ (by omega)
      | exact Tot.some' _
      | refine Tot.ite (fun _ => ?_) (fun _ => ?_)
      | (exfalso; omega)
theorem us_j3 (s : ByteArray) (hs : s.size ≤ 100000) (k : Nat) (x3 : Int) (x4 : Bool) (hk : 4 * s.size + 2 ≤ k) : Tot (lightstrconv_underscoreOK.j3 k s x3 x4) := by
  obtain ⟨k, rfl⟩ : ∃ q, k = q + 1 := ⟨k - 1, by omega⟩
  rw [lightstrconv_underscoreOK.j3]
  exact us_l0 s hs s.size 0 (by omega) _ _ _ (by omega)
theorem us_j1 (s : ByteArray) (hs : s.size ≤ 100000) (k : Nat) (hk : 4 * s.size + 4 ≤ k) : Tot (lightstrconv_underscoreOK.j1 k s) := by
  obtain ⟨k, rfl⟩ : ∃ q, k = q + 1 := ⟨k - 1, by omega⟩
  have h2 : ∀ k x3 x4 b, (b = true → 2 ≤ s.size) → 4 * s.size + 3 ≤ k → Tot (lightstrconv_underscoreOK.j2 k s x3 x4 b) := by
    intro k x3 x4 b hb hk
    obtain ⟨k, rfl⟩ : ∃ q, k = q + 1 := ⟨k - 1, by omega⟩
    rw [lightstrconv_underscoreOK.j2]
    simp only [lightstrconv_lower.f, Option.bind_some]
    have hx : (s.extract 2 s.size).size ≤ s.size := by rw [ByteArray.size_extract]; omega
    cases b
    · rw [if_neg (by decide)]
      exact us_j3 s hs _ _ _ (by omega)
    · have := hb rfl
      rw [if_pos rfl, if_pos (by omega), if_pos (by omega)]
      exact us_j3 _ (by omega) _ _ _ (by omega)
  rw [lightstrconv_underscoreOK.j1]
  simp only [lightstrconv_lower.f, Option.bind_some]
  repeat' first
    | exact h2 _ _ _ _ (fun _ => by omega) (by omega)
    | exact h2 _ _ _ _ (fun h => by cases h) (by omega)
    | exact Tot.some' _
    | refine Tot.ite (fun _ => ?_) (fun _ => ?_)
    | (exfalso; omega)
theorem us_tot (s : ByteArray) (hs : s.size ≤ 100000) (k : Nat) (hk : 4 * s.size + 6 ≤ k) : Tot (lightstrconv_underscoreOK.f k s) := by
  have h0 : ∀ b, (b = true → 1 ≤ s.size) → Tot (lightstrconv_underscoreOK.j0 k s b) := by
    intro b hb
    obtain ⟨k, rfl⟩ : ∃ q, k = q + 1 := ⟨k - 1, by omega⟩
    have hx : (s.extract 1 s.size).size ≤ s.size := by rw [ByteArray.size_extract]; omega
    rw [lightstrconv_underscoreOK.j0]
    cases b
    · rw [if_neg (by decide)]
      exact us_j1 s hs _ (by omega)
    · have := hb rfl
      rw [if_pos rfl, if_pos (by omega)]
      exact us_j1 _ (by omega) _ (by omega)
  unfold lightstrconv_underscoreOK.f
  by_cases he : s.toList = ([] : List UInt8)
  · rw [if_pos he]
    exact h0 _ (fun h => by cases h)
  · have hp : 0 < s.size := by
      rcases Nat.eq_zero_or_pos s.size with h | h
      · refine absurd ?_ he
        rw [toList_data]
        exact List.eq_nil_of_length_eq_zero (by rw [← size_list]; exact h)
      · exact h
    rw [if_neg he, if_pos (by omega)]
    exact Tot.ite (fun _ => h0 _ (fun _ => by omega)) (fun _ => h0 _ (fun _ => by omega))
theorem und_l0 (s : ByteArray) (hs : s.size ≤ 100000) : ∀ (n i : Nat), i + n = s.size → ∀ k, n + 4 * s.size + 8 ≤ k → Tot (lightstrconv_underscores.l0 k s (i : Int))
  | 0, i, hi, k, hk => by
    obtain ⟨k, rfl⟩ : ∃ q, k = q + 1 := ⟨k - 1, by omega⟩
    rw [lightstrconv_underscores.l0, if_neg (by omega)]
    exact Tot.some' _
  | n + 1, i, hi, k, hk => by
    obtain ⟨k, rfl⟩ : ∃ q, k = q + 1 := ⟨k - 1, by omega⟩
    have ih := und_l0 s hs n (i + 1) (by omega)
    rw [lightstrconv_underscores.l0, if_pos (by omega), if_pos (by omega), w_suc (by omega)]
    refine Tot.ite (fun _ => ?_) (fun _ => ih _ (by omega))
    obtain ⟨r, hr⟩ := us_tot s hs k (by omega)
    rw [hr]
    exact Tot.some' _
theorem und_tot (s : ByteArray) (hs : s.size ≤ 100000) : ∃ k, Tot (lightstrconv_underscores.f k s) :=
  ⟨_, und_l0 s hs s.size 0 (by omega) _ (Nat.le_refl _)⟩
/-- fold: what it answers depends on the texts alone. -/
theorem fold_any (s t : ByteArray) (hs : s.size ≤ 100000) : ∃ r, ∀ w, Calls Tryd.prog 20 #[.string s, .string t] w fun e w' => e = .returned (.bool r) ∧ Drawn0 w w' := by
  obtain ⟨k, r, hr⟩ := fold_tot s t hs
  exact ⟨r, fun w => lightstrconv_fold.calls k s t r w hr⟩
theorem und_any (s : ByteArray) (hs : s.size ≤ 100000) : ∃ r, ∀ w, Calls Tryd.prog 26 #[.string s] w fun e w' => e = .returned (.bool r) ∧ Drawn0 w w' := by
  obtain ⟨k, r, hr⟩ := und_tot s hs
  exact ⟨r, fun w => lightstrconv_underscores.calls k s r w hr⟩
end Go.Proofs.YtnmochachiieaaaDoor.PFnBeforeFalls
