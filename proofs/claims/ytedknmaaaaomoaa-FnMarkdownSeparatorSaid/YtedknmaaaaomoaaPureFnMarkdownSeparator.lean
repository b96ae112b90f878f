/- The separator's line is the want's: an index column's mark, then each column's alignment. -/
import Derived.Test.YtedknmaaaaomoaaPFnMarkdownSeparatorx2
import Derived.Test.YtedknmaaaaomoaaBase
namespace Go.Proofs.Ytedknmaaaaomoaa.Pure
open Go.RowKit Go.Proofs.Ytedknmaaaaomoaa.PFnMarkdownSeparator Go.Proofs.YtedknmaaaaomoaaW.PrintWords Go.Proofs.YtedknmaaaaomoaaW.PrintLast Go.Proofs.YtedknmaaaaomoaaW.PrintMore
open Go.Proofs.Ytedknmaaaaomoaa.Base Go.Proofs.Ytedknmaaaaomoaa.Hand Go.Proofs.Ytedknmaaaaomoaa
set_option linter.unusedSimpArgs false
set_option linter.unusedVariables false
set_option maxRecDepth 10000

theorem md_j1 (a x : Int) (n : Nat) (hx : x = ((max 3 n : Nat) : Int)) (hn : n ≤ 1000000) : Ev (fun k => text_Align_MarkdownProperty.j1 k a x) (mdB a n) := by
  have hr : strings_Repeat.f (⟨#[45]⟩ : ByteArray) x = some ⟨(dashes (max 3 n)).toArray⟩ := by
    unfold strings_Repeat.f
    subst hx
    rw [if_pos ⟨by omega, by omega, by rw [Int.toNat_natCast]; show 1 * max 3 n ≤ _; omega⟩, Int.toNat_natCast]
    show some (⟨(Lib.repeatL [45] (max 3 n)).toArray⟩ : ByteArray) = _
    rw [rep_dash]
  have s1 : (⟨#[58]⟩ : ByteArray).size = 1 := rfl
  have s2 : (⟨#[32]⟩ : ByteArray).size = 1 := rfl
  refine Ev.step (f := fun _ => some (mdB a n)) (fun k => ?_) (Ev.now _)
  simp only [text_Align_MarkdownProperty.j1]
  rw [hr]
  simp only [Option.bind_some, ByteArray.size_append, dash_size, s1, s2]
  have hb : (1 + max 3 n ≤ 9223372036854775807) = True := eq_true (by omega)
  have hc : (1 + max 3 n + 1 ≤ 9223372036854775807) = True := eq_true (by omega)
  simp only [hb, hc, if_true]
  unfold mdB
  by_cases h1 : a = 1
  · rw [if_pos h1, if_pos h1]
  · rw [if_neg h1, if_neg h1]
    by_cases h2 : a = 2
    · rw [if_pos h2, if_pos h2]
    · rw [if_neg h2, if_neg h2]
      by_cases h4 : a = 4
      · rw [if_pos h4, if_pos h4]
      · rw [if_neg h4, if_neg h4]
theorem md_none (a : Int) : Ev (fun k => text_Align_MarkdownProperty.f k a []) (mdB a 0) := by
  refine Ev.congr (f := fun k => text_Align_MarkdownProperty.j0 k a [] 3 false) (fun k => by unfold text_Align_MarkdownProperty.f; rw [if_neg (by simp)]) ?_
  refine Ev.step (f := fun k => text_Align_MarkdownProperty.j1 k a 3) (fun k => ?_) (md_j1 a 3 0 (by simp) (by omega))
  simp only [text_Align_MarkdownProperty.j0]
  rw [if_neg (by decide)]
theorem md_one (a : Int) (n : Nat) (hn : n ≤ 1000000) : Ev (fun k => text_Align_MarkdownProperty.f k a [(n : Int)]) (mdB a n) := by
  refine Ev.congr (f := fun k => text_Align_MarkdownProperty.j0 k a [(n : Int)] 3 (decide ((rd [(n : Int)] 0) > 3))) (fun k => by unfold text_Align_MarkdownProperty.f; rw [if_pos (by simp), if_pos (by simp)]) ?_
  have h0 : rd [(n : Int)] 0 = (n : Int) := rfl
  rw [h0]
  by_cases h : (n : Int) > 3
  · refine Ev.step (f := fun k => text_Align_MarkdownProperty.j1 k a (n : Int)) (fun k => ?_) (md_j1 a n n (by omega) hn)
    simp only [text_Align_MarkdownProperty.j0]
    rw [if_pos (by simpa using h), if_pos (by simp), h0]
  · refine Ev.step (f := fun k => text_Align_MarkdownProperty.j1 k a 3) (fun k => ?_) (md_j1 a 3 n (by omega) hn)
    simp only [text_Align_MarkdownProperty.j0]
    rw [if_neg (by simpa using h)]
theorem w_succ (i : Nat) (h : i ≤ 1000000000000000) : wrap64 ((i : Int) + 1) = ((i + 1 : Nat) : Int) := by rw [wrap64_id (by omega) (by omega)]; omega
theorem rd_nat (l : List Int) (i : Nat) : rd l (i : Int) = l.getD i 0 := by simp [rd]
theorem fits_ev (l : List Int) (most low high : Int) (hl : l.length ≤ 1000000000000000) : ∃ b, Ev (fun k => laws_fits.f k l most low high) b ∧ (b = true → (l.length : Int) ≤ most ∧ ∀ x ∈ l, low ≤ x ∧ x ≤ high) := by
  have key : ∀ (r p : List Int), l = p ++ r → ∃ b, Ev (fun k => laws_fits.l0 k l most low high (p.length : Int)) b ∧ (b = true → (l.length : Int) ≤ most ∧ ∀ x ∈ r, low ≤ x ∧ x ≤ high) := by
    intro r
    induction r with
    | nil =>
      intro p hp
      refine ⟨_, Ev.step (f := fun _ => some (decide ((l.length : Int) ≤ most))) (fun k => ?_) (Ev.now _), fun h => ⟨of_decide_eq_true h, fun x hx => by cases hx⟩⟩
      simp only [laws_fits.l0]
      rw [if_neg (by rw [hp]; simp)]
    | cons q r ih =>
      intro p hp
      have hlen : l.length = p.length + r.length + 1 := by rw [hp]; simp; omega
      have hrd : rd l (p.length : Int) = q := rd_at hp
      by_cases c1 : q < low
      · refine ⟨false, Ev.step (f := fun _ => some false) (fun k => ?_) (Ev.now _), fun h => by cases h⟩
        simp only [laws_fits.l0]
        rw [if_pos (by omega), if_pos (by omega), hrd, if_pos c1]
      by_cases c2 : q > high
      · refine ⟨false, Ev.step (f := fun _ => some false) (fun k => ?_) (Ev.now _), fun h => by cases h⟩
        simp only [laws_fits.l0]
        rw [if_pos (by omega), if_pos (by omega), hrd, if_neg c1, if_pos c2]
      obtain ⟨b, hb, hg⟩ := ih (p ++ [q]) (by rw [hp]; simp)
      rw [← succ_len (q := q) (by omega)] at hb
      refine ⟨b, Ev.step (f := _) (fun k => ?_) hb, fun h => ⟨(hg h).1, fun x hx => ?_⟩⟩
      · simp only [laws_fits.l0]
        rw [if_pos (by omega), if_pos (by omega), hrd, if_neg c1, if_neg c2]
      · rcases List.mem_cons.1 hx with rfl | hx
        · omega
        · exact (hg h).2 x hx
  exact key l [] rfl

theorem fits4_l0 (l : List ByteArray) (hl : l.length ≤ 2147483647) : ∀ (r p : List ByteArray), l = p ++ r →
    ∃ b, (b = true → ∀ x ∈ r, x.size ≤ 2147483647) ∧ Ev (fun k => laws_zzFits4.l0 k l (l.length : Int) (p.length : Int)) b := by
  intro r
  induction r with
  | nil =>
    intro p hp
    refine ⟨true, fun _ x hx => by simp at hx, Ev.step (f := fun _ => some true) (fun k => ?_) (Ev.now _)⟩
    simp only [laws_zzFits4.l0]
    rw [if_neg (by rw [hp]; simp)]
  | cons q r ih =>
    intro p hp
    have hlen : l.length = p.length + r.length + 1 := by rw [hp]; simp; omega
    have hrd : rdOf ByteArray.empty l (p.length : Int) = q := by rw [hp]; simp [rdOf, List.getD]
    obtain ⟨b, hb, hev⟩ := ih (p ++ [q]) (by rw [hp]; simp)
    by_cases hq : (q.size : Int) > 2147483647
    · refine ⟨false, (fun h => by cases h), Ev.step (f := fun _ => some false) (fun k => ?_) (Ev.now _)⟩
      simp only [laws_zzFits4.l0]
      rw [if_pos (by omega), if_pos (by omega), if_pos (by omega), hrd, if_pos hq]
    · refine ⟨b, fun h x hx => ?_, Ev.step (f := fun k => laws_zzFits4.l0 k l (l.length : Int) ((p ++ [q]).length : Int)) (fun k => ?_) hev⟩
      · rcases List.mem_cons.1 hx with rfl | hx
        · omega
        · exact hb h x hx
      · simp only [laws_zzFits4.l0]
        rw [if_pos (by omega), if_pos (by omega), if_pos (by omega), hrd, if_neg hq, succ_len (q := q) (by omega)]
theorem fits4_ev (l : List ByteArray) : ∃ b, (b = true → l.length ≤ 2147483647 ∧ ∀ x ∈ l, x.size ≤ 2147483647) ∧ Ev (fun k => laws_zzFits4.f k l) b := by
  unfold laws_zzFits4.f
  by_cases h : (l.length : Int) > 2147483647
  · exact ⟨false, (fun h => by cases h), Ev.congr (f := fun _ => some false) (fun k => by rw [if_pos h]) (Ev.now _)⟩
  · obtain ⟨b, hb, hev⟩ := fits4_l0 l (by omega) l [] rfl
    exact ⟨b, fun e => ⟨by omega, hb e⟩, Ev.congr (f := fun k => laws_zzFits4.l0 k l (l.length : Int) 0) (fun k => by rw [if_neg h]) hev⟩
theorem zz_ev (l0 : List ByteArray) (c : Int) (p : Bool) (l3 l4 : List Int) (a b : Int) : ∃ r, Ev (fun k => laws_zzFits21.f k l0 c p l3 l4 a b) r := by
  obtain ⟨b0, _, h0⟩ := fits4_ev l0
  unfold laws_zzFits21.f
  cases b0 with
  | false => exact ⟨false, Ev.bind h0 (by simp only [Bool.false_eq_true, ↓reduceIte]; exact Ev.now _)⟩
  | true =>
    by_cases c1 : (l3.length : Int) > 2147483647
    · exact ⟨false, Ev.bind h0 (by simp only [↓reduceIte, if_pos c1]; exact Ev.now _)⟩
    · by_cases c2 : (l4.length : Int) > 2147483647
      · exact ⟨false, Ev.bind h0 (by simp only [↓reduceIte, if_neg c1, if_pos c2]; exact Ev.now _)⟩
      · exact ⟨true, Ev.bind h0 (by simp only [↓reduceIte, if_neg c1, if_neg c2]; exact Ev.now _)⟩
theorem times_ev (n : Nat) (hn : n ≤ 1000000) : Ev (fun k => spec_Times.f k (⟨#[45]⟩ : ByteArray) (n : Int)) ⟨(dashes n).toArray⟩ := by
  have key : ∀ (d i : Nat), n - i ≤ d → i ≤ n → Ev (fun k => spec_Times.l0 k (⟨#[45]⟩ : ByteArray) (n : Int) ⟨(dashes i).toArray⟩ (i : Int)) ⟨(dashes n).toArray⟩ := by
    intro d
    induction d with
    | zero =>
      intro i h1 h2
      have : i = n := by omega
      subst this
      refine Ev.step (f := fun _ => some ⟨(dashes i).toArray⟩) (fun k => ?_) (Ev.now _)
      simp only [spec_Times.l0]
      rw [if_neg (by omega)]
    | succ d ih =>
      intro i h1 h2
      by_cases hi : i < n
      · have h := ih (i + 1) (by omega) (by omega)
        have e : (⟨(dashes i).toArray⟩ : ByteArray) ++ ⟨#[45]⟩ = ⟨(dashes (i + 1)).toArray⟩ := bytes_ext (by
          rw [data_append]
          simp [dashes, List.replicate_succ'])
        refine Ev.step (f := _) (fun k => ?_) h
        simp only [spec_Times.l0]
        rw [if_pos (by omega), if_pos (by rw [dash_size]; show i + 1 ≤ _; omega), e, w_succ i (by omega)]
      · have : i = n := by omega
        subst this
        refine Ev.step (f := fun _ => some ⟨(dashes i).toArray⟩) (fun k => ?_) (Ev.now _)
        simp only [spec_Times.l0]
        rw [if_neg (by omega)]
  exact key n 0 (by omega) (by omega)
theorem at_some (l : List Int) (i : Nat) : spec_At.f l (i : Int) = some (atL l i) := by
  unfold spec_At.f spec_at.f
  by_cases h : i < l.length
  · rw [if_pos (by omega), if_pos (by omega), rd_nat]
    rfl
  · rw [if_neg (by omega)]
    simp [atL, List.getD, List.getElem?_eq_none (show l.length ≤ i by omega)]
theorem at_in {l : List Int} (h : ∀ x ∈ l, 0 ≤ x ∧ x ≤ 200) (i : Nat) : 0 ≤ atL l i ∧ atL l i ≤ 200 := by
  unfold atL
  rcases Nat.lt_or_ge i l.length with hi | hi
  · have : l.getD i 0 = l[i] := by simp [List.getD, hi]
    rw [this]
    exact h _ (List.getElem_mem hi)
  · simp [List.getD, List.getElem?_eq_none hi]
/-- A column's mark. -/
def mk (pad : Bool) (widths aligns : List Int) (i : Nat) : ByteArray := mdB (atL aligns i) (if pad = true then (atL widths i).toNat else 0)
/-- The want's text ahead of column i. -/
def X (idx pad : Bool) (nw : Nat) (widths aligns : List Int) : Nat → List UInt8
  | 0 => [124] ++ idxT idx pad nw 0
  | i + 1 => X idx pad nw widths aligns i ++ (mk pad widths aligns i).data.toList ++ [124]
theorem mk_size (pad : Bool) (widths aligns : List Int) (hw : ∀ x ∈ widths, 0 ≤ x ∧ x ≤ 200) (i : Nat) : (mk pad widths aligns i).size ≤ 1000010 := by
  refine mdB_size _ _ ?_
  have := at_in hw i
  split <;> omega
theorem X_len (idx pad : Bool) (nw : Nat) (hnw : nw ≤ 200) (widths aligns : List Int) (hw : ∀ x ∈ widths, 0 ≤ x ∧ x ≤ 200) : ∀ i, (X idx pad nw widths aligns i).length ≤ 2000000 * (i + 1)
  | 0 => by
    have := idxT_len idx pad nw 0 (by omega)
    simp only [X, List.length_append, List.length_singleton]
    omega
  | i + 1 => by
    have h1 := X_len idx pad nw hnw widths aligns hw i
    have h2 := mk_size pad widths aligns hw i
    rw [size_list] at h2
    simp only [X, List.length_append, List.length_singleton]
    omega
theorem X_cols (idx pad : Bool) (nw : Nat) (widths aligns : List Int) (n : Nat) : ∀ i, i + 1 ≤ n → X idx pad nw widths aligns (i + 1) = colsT idx pad nw (wsOf widths n) (csOf aligns n) (i + 1) := by
  have hc : ∀ i, i < n → colT idx pad nw (wsOf widths n) (csOf aligns n) i = idxT idx pad nw i ++ (mk pad widths aligns i).data.toList ++ [124] := by
    intro i hi
    have e1 : alAt (csOf aligns n) i = atL aligns i := by simp [alAt, csOf, List.getD, hi]
    have e2 : (wsOf widths n).getD i 0 = atL widths i := by simp [wsOf, List.getD, hi]
    unfold colT mk
    rw [e1, e2]
  intro i
  induction i with
  | zero =>
    intro h
    rw [colsT, hc 0 (by omega)]
    simp [X, colsT]
  | succ i ih =>
    intro h
    have e : idxT idx pad nw (i + 1) = [] := by simp [idxT]
    rw [colsT, hc (i + 1) (by omega), e, ← ih (by omega), List.nil_append, ← List.append_assoc]
    rfl
theorem mark_ev (pad : Bool) (widths aligns : List Int) (hw : ∀ x ∈ widths, 0 ≤ x ∧ x ≤ 200) (i : Nat) :
    (pad = true → Ev (fun k => impl_TextAlignMarkdown.f k (atL aligns i) [atL widths i]) (mk pad widths aligns i)) ∧ (pad = false → Ev (fun k => impl_TextAlignMarkdown.f k (atL aligns i) []) (mk pad widths aligns i)) := by
  have h := at_in hw i
  constructor
  · rintro rfl
    have e : ((atL widths i).toNat : Int) = atL widths i := by omega
    have := md_one (atL aligns i) (atL widths i).toNat (by omega)
    rw [e] at this
    exact Ev.bind this (Ev.now _)
  · rintro rfl
    exact Ev.bind (md_none (atL aligns i)) (Ev.now _)
theorem loop_ev (l0 : List ByteArray) (widths aligns : List Int) (n nw : Nat) (pad : Bool) (num : Int) (hn0 : 1 ≤ n) (hn : n ≤ 60) (hnw : nw ≤ 200) (hw : ∀ x ∈ widths, 0 ≤ x ∧ x ≤ 200) :
    ∀ d i, n - i ≤ d → i ≤ n → Ev (fun k => laws_FnMarkdownSeparator.l0 k ⟨(X (decide (0 < num)) pad nw widths aligns i).toArray⟩ (i : Int) l0 (n : Int) pad widths aligns num (nw : Int)) true := by
  have base : ∀ i, i = n → Ev (fun k => laws_FnMarkdownSeparator.l0 k ⟨(X (decide (0 < num)) pad nw widths aligns i).toArray⟩ (i : Int) l0 (n : Int) pad widths aligns num (nw : Int)) true := by
    rintro i rfl
    refine Ev.step (f := fun _ => some true) (fun k => ?_) (Ev.now _)
    have hf : impl_MarkdownSeparator.f l0 (i : Int) pad widths aligns num (nw : Int) = some ⟨(X (decide (0 < num)) pad nw widths aligns i).toArray⟩ := by
      unfold impl_MarkdownSeparator.f
      rw [if_pos ⟨⟨by omega, by omega⟩, ⟨by omega, by omega⟩, fun x hx => by have := hw x hx; omega⟩, Int.toNat_natCast, Int.toNat_natCast]
      obtain ⟨j, rfl⟩ : ∃ j, i = j + 1 := ⟨i - 1, by omega⟩
      rw [X_cols _ pad nw widths aligns (j + 1) j (Nat.le_refl _)]
    simp only [laws_FnMarkdownSeparator.l0]
    rw [if_neg (by omega), hf]
    simp only [Option.bind_some, beq_self_eq_true]
  intro d
  induction d with
  | zero => exact fun i a b => base i (by omega)
  | succ d ih =>
    intro i a b
    by_cases hi : i < n
    · have hr := ih (i + 1) (by omega) (by omega)
      have hl := X_len (decide (0 < num)) pad nw hnw widths aligns hw i
      have hm := mk_size pad widths aligns hw i
      have ex : ((⟨(X (decide (0 < num)) pad nw widths aligns i).toArray⟩ : ByteArray) ++ mk pad widths aligns i) ++ ⟨#[124]⟩ = ⟨(X (decide (0 < num)) pad nw widths aligns (i + 1)).toArray⟩ := bytes_ext (by
        rw [data_append, data_append]
        simp [X])
      have hs : (⟨(X (decide (0 < num)) pad nw widths aligns i).toArray⟩ : ByteArray).size ≤ 2000000 * (i + 1) := by rw [size_list]; simpa using hl
      obtain ⟨m1, m2⟩ := mark_ev pad widths aligns hw i
      have fin : Ev (fun k => if (⟨(X (decide (0 < num)) pad nw widths aligns i).toArray⟩ : ByteArray).size + (mk pad widths aligns i).size ≤ 9223372036854775807 then (if ((⟨(X (decide (0 < num)) pad nw widths aligns i).toArray⟩ : ByteArray) ++ mk pad widths aligns i).size + 1 ≤ 9223372036854775807 then (laws_FnMarkdownSeparator.l0 k (((⟨(X (decide (0 < num)) pad nw widths aligns i).toArray⟩ : ByteArray) ++ mk pad widths aligns i) ++ (⟨#[124]⟩ : ByteArray)) (wrap64 ((i : Int) + 1)) l0 (n : Int) pad widths aligns num (nw : Int)) else none) else none) true := by
        refine Ev.congr (fun k => ?_) hr
        rw [if_pos (by omega), if_pos (by rw [ByteArray.size_append]; omega), ex, w_succ i (by omega)]
      cases hp : pad with
      | true =>
        have e := Ev.bind (f := fun k t => (if (⟨(X (decide (0 < num)) pad nw widths aligns i).toArray⟩ : ByteArray).size + t.size ≤ 9223372036854775807 then (if ((⟨(X (decide (0 < num)) pad nw widths aligns i).toArray⟩ : ByteArray) ++ t).size + 1 ≤ 9223372036854775807 then (laws_FnMarkdownSeparator.l0 k (((⟨(X (decide (0 < num)) pad nw widths aligns i).toArray⟩ : ByteArray) ++ t) ++ (⟨#[124]⟩ : ByteArray)) (wrap64 ((i : Int) + 1)) l0 (n : Int) pad widths aligns num (nw : Int)) else none) else none)) (m1 hp) fin
        refine Ev.step (fun k => ?_) e
        subst hp
        simp only [laws_FnMarkdownSeparator.l0]
        rw [if_pos (by omega), at_some, at_some]
        simp only [Option.bind_some, ↓reduceIte]
      | false =>
        have e := Ev.bind (f := fun k t => (if (⟨(X (decide (0 < num)) pad nw widths aligns i).toArray⟩ : ByteArray).size + t.size ≤ 9223372036854775807 then (if ((⟨(X (decide (0 < num)) pad nw widths aligns i).toArray⟩ : ByteArray) ++ t).size + 1 ≤ 9223372036854775807 then (laws_FnMarkdownSeparator.l0 k (((⟨(X (decide (0 < num)) pad nw widths aligns i).toArray⟩ : ByteArray) ++ t) ++ (⟨#[124]⟩ : ByteArray)) (wrap64 ((i : Int) + 1)) l0 (n : Int) pad widths aligns num (nw : Int)) else none) else none)) (m2 hp) fin
        refine Ev.step (fun k => ?_) e
        subst hp
        simp only [laws_FnMarkdownSeparator.l0]
        rw [if_pos (by omega), at_some]
        simp only [Option.bind_some, Bool.false_eq_true, ↓reduceIte]
    · exact base i (by omega)
theorem law_j2 (l0 : List ByteArray) (widths aligns : List Int) (n nw : Nat) (pad : Bool) (num : Int) (hn0 : 1 ≤ n) (hn : n ≤ 60) (hnw : nw ≤ 200) (hw : ∀ x ∈ widths, 0 ≤ x ∧ x ≤ 200) (x : ByteArray) (hx : x = ⟨([124] ++ idxT (decide (0 < num)) pad nw 0).toArray⟩) :
    Ev (fun k => laws_FnMarkdownSeparator.j2 k x l0 (n : Int) pad widths aligns num (nw : Int)) true := by
  subst hx
  refine Ev.step (fun k => ?_) (loop_ev l0 widths aligns n nw pad num hn0 hn hnw hw n 0 (by omega) (by omega))
  simp only [laws_FnMarkdownSeparator.j2]
  rfl
theorem law_j0 (l0 : List ByteArray) (widths aligns : List Int) (n nw : Nat) (pad : Bool) (num : Int) (hn0 : 1 ≤ n) (hn : n ≤ 60) (hnw : nw ≤ 200) (hw : ∀ x ∈ widths, 0 ≤ x ∧ x ≤ 200) :
    Ev (fun k => laws_FnMarkdownSeparator.j0 k false l0 (n : Int) pad widths aligns num (nw : Int)) true := by
  have s1 : (⟨#[124]⟩ : ByteArray).size = 1 := rfl
  have s2 : (⟨#[32]⟩ : ByteArray).size = 1 := rfl
  by_cases hz : num > 0
  · have hd : decide (0 < num) = true := decide_eq_true hz
    cases pad with
    | true =>
      have e2 := law_j2 l0 widths aligns n nw true num hn0 hn hnw hw ((((⟨#[124]⟩ : ByteArray) ++ ⟨#[32]⟩) ++ ⟨(dashes nw).toArray⟩) ++ ⟨#[58, 124]⟩) (bytes_ext (by
        rw [data_append, data_append, data_append]
        simp [idxT, hd]))
      have e1 : Ev (fun k => laws_FnMarkdownSeparator.j1 k (⟨#[124]⟩ : ByteArray) true l0 (n : Int) true widths aligns num (nw : Int)) true := by
        have e3 := Ev.bind (f := fun k t116 => (if ((⟨#[124]⟩ : ByteArray) ++ (⟨#[32]⟩ : ByteArray)).size + t116.size ≤ 9223372036854775807 then (if (((⟨#[124]⟩ : ByteArray) ++ (⟨#[32]⟩ : ByteArray)) ++ t116).size + 2 ≤ 9223372036854775807 then (laws_FnMarkdownSeparator.j2 k ((((⟨#[124]⟩ : ByteArray) ++ (⟨#[32]⟩ : ByteArray)) ++ t116) ++ (⟨#[58, 124]⟩ : ByteArray)) l0 (n : Int) true widths aligns num (nw : Int)) else (none)) else (none))) (times_ev nw (by omega)) (Ev.congr (fun k => by
          rw [if_pos (by simp only [ByteArray.size_append, dash_size, s1, s2]; omega), if_pos (by simp only [ByteArray.size_append, dash_size, s1, s2]; omega)]) e2)
        refine Ev.step (fun k => ?_) e3
        simp only [laws_FnMarkdownSeparator.j1]
        rw [if_pos trivial, if_pos (by rw [s1]; decide)]
      refine Ev.step (fun k => ?_) e1
      simp only [laws_FnMarkdownSeparator.j0]
      rw [if_neg (by decide), if_pos hz]
    | false =>
      have e2 := law_j2 l0 widths aligns n nw false num hn0 hn hnw hw ((⟨#[124]⟩ : ByteArray) ++ ⟨#[32, 45, 45, 45, 58, 124]⟩) (bytes_ext (by
        rw [data_append]
        simp [idxT, hd]))
      have e1 : Ev (fun k => laws_FnMarkdownSeparator.j1 k (⟨#[124]⟩ : ByteArray) false l0 (n : Int) false widths aligns num (nw : Int)) true := by
        refine Ev.step (fun k => ?_) e2
        simp only [laws_FnMarkdownSeparator.j1]
        rw [if_neg (by decide), if_pos hz, if_pos (by rw [s1]; decide)]
      refine Ev.step (fun k => ?_) e1
      simp only [laws_FnMarkdownSeparator.j0]
      rw [if_neg (by decide), if_pos hz]
  · have hd : decide (0 < num) = false := decide_eq_false hz
    have e2 := law_j2 l0 widths aligns n nw pad num hn0 hn hnw hw (⟨#[124]⟩ : ByteArray) (bytes_ext (by simp [idxT, hd]))
    have e1 : Ev (fun k => laws_FnMarkdownSeparator.j1 k (⟨#[124]⟩ : ByteArray) false l0 (n : Int) pad widths aligns num (nw : Int)) true := by
      refine Ev.step (fun k => ?_) e2
      simp only [laws_FnMarkdownSeparator.j1]
      rw [if_neg (by decide), if_neg hz]
    refine Ev.step (fun k => ?_) e1
    simp only [laws_FnMarkdownSeparator.j0]
    rw [if_neg (by decide), if_neg hz]
theorem law_t (l0 : List ByteArray) (c : Int) (pad : Bool) (widths aligns : List Int) (num nw : Int) : Ev (fun k => laws_FnMarkdownSeparator.j0 k true l0 c pad widths aligns num nw) true := by
  refine Ev.step (f := fun _ => some true) (fun k => ?_) (Ev.now _)
  simp only [laws_FnMarkdownSeparator.j0]
  rw [if_pos trivial]
theorem FnMarkdownSeparator : laws_FnMarkdownSeparator.Pure := by
  intro l0 c pad widths aligns num nw _ _ h3 h4 _ _
  have e : Ev (fun k => laws_FnMarkdownSeparator.f k l0 c pad widths aligns num nw) true := by
    unfold laws_FnMarkdownSeparator.f
    obtain ⟨b0, hb0⟩ := zz_ev l0 c pad widths aligns num nw
    refine Ev.bind hb0 ?_
    cases b0 with
    | false => simp only [Bool.false_eq_true, ↓reduceIte]; exact Ev.now _
    | true =>
      simp only [↓reduceIte]
      by_cases c1 : c < 1
      · simp only [if_pos c1]; exact law_t ..
      by_cases c2 : c > 60
      · simp only [if_neg c1, if_pos c2]; exact law_t ..
      simp only [if_neg c1, if_neg c2]
      obtain ⟨b1, hb1, g1⟩ := fits_ev widths 60 0 200 (by omega)
      refine Ev.bind hb1 ?_
      cases b1 with
      | false => simp only [Bool.false_eq_true, ↓reduceIte]; exact law_t ..
      | true =>
        simp only [↓reduceIte]
        by_cases c3 : nw < 0
        · simp only [if_pos c3]; exact law_t ..
        by_cases c4 : nw > 200
        · simp only [if_neg c3, if_pos c4]; exact law_t ..
        simp only [if_neg c3, if_neg c4]
        obtain ⟨b2, hb2, g2⟩ := fits_ev aligns 60 0 5 (by omega)
        refine Ev.bind hb2 ?_
        cases b2 with
        | false => exact law_t ..
        | true =>
          obtain ⟨n, rfl⟩ := Int.eq_ofNat_of_zero_le (show 0 ≤ c by omega)
          obtain ⟨m, rfl⟩ := Int.eq_ofNat_of_zero_le (show 0 ≤ nw by omega)
          exact law_j0 l0 widths aligns n m pad num (by omega) (by omega) (by omega) (g1 rfl).2
  exact e.rounds
end Go.Proofs.Ytedknmaaaaomoaa.Pure
