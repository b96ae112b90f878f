/- A list has a line for each item, each of which ends with the item's text. -/
import Derived.Test.YtmakcmggicedfaaDoorPFnListLinesx4
import Derived.Test.YtmakcmggicedfaaDoorBase
import Derived.Test.YtmakcmggicedfaaDoorCl
namespace Go.Proofs.YtmakcmggicedfaaDoor.Pure
open Go.RowKit Go.Proofs.YtmakcmggicedfaaDoor.PFnListLines Go.Proofs.YtmakcmggicedfaaDoorW.PrintWords Go.Proofs.YtmakcmggicedfaaDoorW.PrintLast Go.Proofs.YtmakcmggicedfaaDoorW.PrintMore
open Go.Proofs.YtmakcmggicedfaaDoor.Base Go.Proofs.YtmakcmggicedfaaDoor.Hand Go.Proofs.YtmakcmggicedfaaDoor.Cl Go.Proofs.YtmakcmggicedfaaDoor
set_option linter.unusedSimpArgs false
set_option linter.unusedVariables false
set_option maxRecDepth 10000

theorem w_succ (i : Nat) (h : i ≤ 1000000000000000) : wrap64 ((i : Int) + 1) = ((i + 1 : Nat) : Int) := by rw [wrap64_id (by omega) (by omega)]; omega
theorem known_some (r : Int) : ∃ b, spec_TxKnown.f r = some b ∧ (b = true → 32 ≤ r ∧ r ≤ 65374) := by
  have h1 : ∃ b, spec_TxBoxed.f r = some b ∧ (b = true → 32 ≤ r ∧ r ≤ 65374) := by
    unfold spec_TxBoxed.f
    split
    · exact ⟨_, rfl, fun h => by have := of_decide_eq_true h; omega⟩
    · exact ⟨_, rfl, fun h => by cases h⟩
  have h2 : ∃ b, spec_TxWide.f r = some b ∧ (b = true → 32 ≤ r ∧ r ≤ 65374) := by
    unfold spec_TxWide.f
    repeat' split
    all_goals
      refine ⟨_, rfl, fun h => ?_⟩
      first
        | cases h; done
        | omega
        | (have := of_decide_eq_true h; omega)
  obtain ⟨b1, h1, g1⟩ := h1
  obtain ⟨b2, h2, g2⟩ := h2
  unfold spec_TxKnown.f
  rw [h1, h2]
  simp only [Option.bind_some]
  repeat' split
  all_goals first
    | exact ⟨_, rfl, fun _ => by omega⟩
    | (rename_i h; exact ⟨_, rfl, fun _ => g1 h⟩)
    | exact ⟨_, rfl, g2⟩
theorem wide_some (r : Int) : ∃ b, spec_TxWide.f r = some b := by
  unfold spec_TxWide.f
  repeat' split
  all_goals exact ⟨_, rfl⟩
/-- A text whose characters are all known. -/
theorem simple_l0 (s : ByteArray) (hs : s.size ≤ 4611686018427387904) : ∀ (d pos : Nat), pos ≤ s.size → s.size - pos ≤ d →
    ∃ b, Ev (fun k => spec_TxSimple.l0 k false (pos : Int) s) b ∧ (b = true → Cl (s.data.toList.drop pos)) := by
  intro d
  induction d with
  | zero =>
    intro pos h1 h2
    refine ⟨true, Ev.step (f := fun _ => some true) (fun k => ?_) (Ev.now _), fun _ => ?_⟩
    · simp only [spec_TxSimple.l0]
      rw [if_neg (by unfold It.itK; omega)]
    · rw [List.drop_eq_nil_of_le (by rw [← size_list]; omega)]
      exact .nil
  | succ d ih =>
    intro pos h1 h2
    by_cases hlt : pos < s.size
    · obtain ⟨t1, t2, t3, t4, t5⟩ := Text.decode_takes s pos hlt
      obtain ⟨bk, hk, gk⟩ := known_some (It.itR s (pos : Int))
      have eR : It.itR s (pos : Int) = ((Go.Utf8.decode s pos).1 : Int) := rfl
      have eP : It.itP s (pos : Int) = ((pos + (Go.Utf8.decode s pos).2 : Nat) : Int) := rfl
      have hk' : It.itK (pos : Int) < (s.size : Int) := by unfold It.itK; omega
      cases bk with
      | false =>
        refine ⟨false, Ev.step (f := fun _ => some false) (fun k => ?_) (Ev.now _), fun h => by cases h⟩
        simp only [spec_TxSimple.l0]
        rw [if_pos hk', hk]
        simp
      | true =>
        obtain ⟨b, hb, hg⟩ := ih (pos + (Go.Utf8.decode s pos).2) t2 (by omega)
        refine ⟨b, Ev.step (f := fun k => spec_TxSimple.l0 k false ((pos + (Go.Utf8.decode s pos).2 : Nat) : Int) s) (fun k => ?_) hb, fun h => ?_⟩
        · simp only [spec_TxSimple.l0]
          rw [if_pos hk', hk, eP]
          simp
        · have hr := gk rfl
          rw [eR] at hr
          have hd := Lib.decodeL_drop s pos
          refine Cl.cons _ ?_ ?_ ?_ ?_
          · intro e
            have := congrArg List.length e
            rw [List.length_drop, ← size_list] at this
            simp at this
            omega
          · rw [hd]; omega
          · rw [hd]; omega
          · rw [hd, List.drop_drop]
            exact hg h
    · refine ⟨true, Ev.step (f := fun _ => some true) (fun k => ?_) (Ev.now _), fun _ => ?_⟩
      · simp only [spec_TxSimple.l0]
        rw [if_neg (by unfold It.itK; omega)]
      · rw [List.drop_eq_nil_of_le (by rw [← size_list]; omega)]
        exact .nil
theorem simple_ev (s : ByteArray) (hs : s.size ≤ 4611686018427387904) : ∃ b, Ev (fun k => spec_TxSimple.f k s false) b ∧ (b = true → Cl s.data.toList) := by
  obtain ⟨b, hb, hg⟩ := simple_l0 s hs s.size 0 (by omega) (by omega)
  exact ⟨b, hb, fun h => by simpa using hg h⟩

def itemAt (l : List S33) (j : Nat) : S33 := l.getD j z33
theorem rd_item (l : List S33) (j : Nat) : rd_T33 l (j : Int) = itemAt l j := by simp [rd_T33, itemAt]
/-- An item is right where it stands. -/
def Good (l : List S33) (j : Nat) : Prop := 0 ≤ (itemAt l j).f1 ∧ (itemAt l j).f1 ≤ (if j = 0 then 0 else (itemAt l (j - 1)).f1 + 1) ∧ (itemAt l j).f0.size ≤ 200 ∧ Cl (itemAt l j).f0.data.toList
theorem good_bd (l : List S33) : ∀ j, (∀ i ≤ j, Good l i) → 0 ≤ (itemAt l j).f1 ∧ (itemAt l j).f1 ≤ (j : Int)
  | 0, h => by
    have := h 0 (Nat.le_refl _)
    obtain ⟨h1, h2, _⟩ := this
    rw [if_pos rfl] at h2
    exact ⟨h1, by omega⟩
  | j + 1, h => by
    obtain ⟨h1, h2, _⟩ := h (j + 1) (Nat.le_refl _)
    rw [if_neg (by omega), Nat.add_sub_cancel] at h2
    have := good_bd l j (fun i hi => h i (by omega))
    exact ⟨h1, by omega⟩
theorem right_l0 (l : List S33) (hl : l.length ≤ 1000000000000000) (hz : ∀ x ∈ l, x.f0.size ≤ 140737488351232) : ∀ (d i : Nat), l.length - i ≤ d → i ≤ l.length → (∀ j < i, Good l j) →
    ∃ b, Ev (fun k => spec_LsRight.l0 k l l (l.length : Int) (i : Int)) b ∧ (b = true → l.length ≤ 60 ∧ ∀ j < l.length, Good l j) := by
  have base : ∀ i, i = l.length → (∀ j < i, Good l j) → ∃ b, Ev (fun k => spec_LsRight.l0 k l l (l.length : Int) (i : Int)) b ∧ (b = true → l.length ≤ 60 ∧ ∀ j < l.length, Good l j) := by
    intro i hi hg
    refine ⟨decide ((l.length : Int) ≤ 60), Ev.step (f := fun _ => some (decide ((l.length : Int) ≤ 60))) (fun k => ?_) (Ev.now _), fun h => ⟨?_, ?_⟩⟩
    · simp only [spec_LsRight.l0]
      rw [if_neg (by omega)]
    · have := of_decide_eq_true h
      omega
    · rw [← hi]; exact hg
  intro d
  induction d with
  | zero => exact fun i h1 h2 hg => base i (by omega) hg
  | succ d ih =>
    intro i h1 h2 hg
    by_cases hlt : i < l.length
    · have hsz : (itemAt l i).f0.size ≤ 140737488351232 := by
        have : itemAt l i = l[i] := by simp [itemAt, List.getD, hlt]
        rw [this]
        exact hz _ (List.getElem_mem hlt)
      obtain ⟨bs, hbs, gbs⟩ := simple_ev (itemAt l i).f0 (by omega)
      have key : ∀ top : Int, top = (if i = 0 then 0 else (itemAt l (i - 1)).f1 + 1) →
          ∃ b, Ev (fun k => if (itemAt l i).f1 < 0 then (some false) else (if (itemAt l i).f1 > top then (some false) else (if ((itemAt l i).f0.size : Int) > 200 then (some false) else ((spec_TxSimple.f k (itemAt l i).f0 false).bind fun t => (if t = true then (spec_LsRight.l0 k l l (l.length : Int) (wrap64 ((i : Int) + 1))) else (some false)))))) b ∧ (b = true → l.length ≤ 60 ∧ ∀ j < l.length, Good l j) := by
        intro top ht
        by_cases c1 : (itemAt l i).f1 < 0
        · exact ⟨false, Ev.congr (fun k => by rw [if_pos c1]) (Ev.now _), fun h => by cases h⟩
        by_cases c2 : (itemAt l i).f1 > top
        · exact ⟨false, Ev.congr (fun k => by rw [if_neg c1, if_pos c2]) (Ev.now _), fun h => by cases h⟩
        by_cases c3 : ((itemAt l i).f0.size : Int) > 200
        · exact ⟨false, Ev.congr (fun k => by rw [if_neg c1, if_neg c2, if_pos c3]) (Ev.now _), fun h => by cases h⟩
        cases bs with
        | false =>
          exact ⟨false, Ev.congr (fun k => by rw [if_neg c1, if_neg c2, if_neg c3]) (Ev.bind hbs (Ev.congr (fun k => by rw [if_neg (by decide)]) (Ev.now _))), fun h => by cases h⟩
        | true =>
          obtain ⟨b, hb, hgb⟩ := ih (i + 1) (by omega) (by omega) (fun j hj => by
            by_cases hji : j < i
            · exact hg j hji
            · obtain rfl : j = i := by omega
              exact ⟨by omega, by rw [← ht]; omega, by omega, gbs rfl⟩)
          rw [← w_succ i (by omega)] at hb
          exact ⟨b, Ev.congr (fun k => by rw [if_neg c1, if_neg c2, if_neg c3]) (Ev.bind hbs (Ev.congr (fun k => by rw [if_pos rfl]) hb)), hgb⟩
      by_cases h0 : i = 0
      · obtain ⟨b, hb, hgb⟩ := key 0 (by rw [if_pos h0])
        refine ⟨b, Ev.step (f := _) (fun k => ?_) hb, hgb⟩
        simp only [spec_LsRight.l0]
        rw [if_pos (by omega), if_pos (by omega), if_pos (by omega), if_neg (by omega), rd_item]
      · have hb1 := good_bd l (i - 1) (fun j hj => hg j (by omega))
        have ew : wrap64 ((i : Int) - 1) = ((i - 1 : Nat) : Int) := by rw [wrap64_id (by omega) (by omega)]; omega
        have ew2 : wrap64 ((itemAt l (i - 1)).f1 + 1) = (itemAt l (i - 1)).f1 + 1 := wrap64_id (by omega) (by omega)
        obtain ⟨b, hb, hgb⟩ := key ((itemAt l (i - 1)).f1 + 1) (by rw [if_neg h0])
        refine ⟨b, Ev.step (f := _) (fun k => ?_) hb, hgb⟩
        simp only [spec_LsRight.l0]
        rw [if_pos (by omega), if_pos (by omega), if_pos (by omega), if_pos (by omega), ew, if_pos (by omega), if_pos (by omega), rd_item, rd_item, ew2]
    · exact base i (by omega) hg
theorem right_ev (l : List S33) (hl : l.length ≤ 1000000000000000) (hz : ∀ x ∈ l, x.f0.size ≤ 140737488351232) : ∃ b, Ev (fun k => spec_LsRight.f k l) b ∧ (b = true → l.length ≤ 60 ∧ ∀ j < l.length, Good l j) :=
  right_l0 l hl hz l.length 0 (by omega) (by omega) (fun j hj => absurd hj (by omega))

theorem fits1_ev (l : List S33) (hl : l.length ≤ 1000000000000000) : ∃ b, Ev (fun k => laws_zzFits1.f k l) b := by
  have key : ∀ (d i : Nat), l.length - i ≤ d → i ≤ l.length → ∃ b, Ev (fun k => laws_zzFits1.l0 k l (l.length : Int) (i : Int)) b := by
    intro d
    induction d with
    | zero =>
      intro i h1 h2
      refine ⟨true, Ev.step (f := fun _ => some true) (fun k => ?_) (Ev.now _)⟩
      simp only [laws_zzFits1.l0]
      rw [if_neg (by omega)]
    | succ d ih =>
      intro i h1 h2
      by_cases hlt : i < l.length
      · obtain ⟨b, hb⟩ := ih (i + 1) (by omega) (by omega)
        by_cases c : ((itemAt l i).f0.size : Int) > 2147483647
        · refine ⟨false, Ev.step (f := fun _ => some false) (fun k => ?_) (Ev.now _)⟩
          simp only [laws_zzFits1.l0, laws_zzFits2.f]
          rw [if_pos (by omega), if_pos (by omega), if_pos (by omega), rd_item, if_pos c]
          simp
        · refine ⟨b, Ev.step (f := _) (fun k => ?_) hb⟩
          simp only [laws_zzFits1.l0, laws_zzFits2.f]
          rw [if_pos (by omega), if_pos (by omega), if_pos (by omega), rd_item, if_neg c, w_succ i (by omega)]
          simp
      · refine ⟨true, Ev.step (f := fun _ => some true) (fun k => ?_) (Ev.now _)⟩
        simp only [laws_zzFits1.l0]
        rw [if_neg (by omega)]
  unfold laws_zzFits1.f
  by_cases c : (l.length : Int) > 2147483647
  · exact ⟨false, Ev.congr (fun k => by rw [if_pos c]) (Ev.now _)⟩
  · obtain ⟨b, hb⟩ := key l.length 0 (by omega) (by omega)
    exact ⟨b, Ev.congr (fun k => by rw [if_neg c]; rfl) hb⟩
theorem fits3_some (s0 : Int) (s1 s2 s3 s4 s5 s6 s7 s8 : ByteArray) : ∃ b, laws_zzFits3.f s0 s1 s2 s3 s4 s5 s6 s7 s8 = some b := by
  unfold laws_zzFits3.f
  repeat' split
  all_goals exact ⟨_, rfl⟩

/-- What a style is. -/
def Styled (s0 : Int) (s1 s2 s3 s4 s5 s6 s7 s8 : ByteArray) : Prop :=
  (∀ x ∈ [s1, s2, s3, s4, s5, s6, s8], x.size ≤ 20 ∧ Cl x.data.toList) ∧ s0 = 0 ∧ s7 = ⟨#[10]⟩
theorem styled_l1 (s0 : Int) (s1 s2 s3 s4 s5 s6 s7 s8 : ByteArray) (hs : s5.size ≤ 4611686018427387904) : ∀ (d pos : Nat), pos ≤ s5.size → s5.size - pos ≤ d →
    ∃ b, Ev (fun k => spec_LsStyled.l1 k s0 s1 s2 s3 s4 s5 s6 s7 s8 (pos : Int) s5) b ∧ (b = true → s0 = 0 ∧ s7 = ⟨#[10]⟩) := by
  have base : ∀ pos : Nat, pos = s5.size → ∃ b, Ev (fun k => spec_LsStyled.l1 k s0 s1 s2 s3 s4 s5 s6 s7 s8 (pos : Int) s5) b ∧ (b = true → s0 = 0 ∧ s7 = ⟨#[10]⟩) := by
    intro pos hp
    have hk' : ¬ It.itK (pos : Int) < (s5.size : Int) := by unfold It.itK; omega
    by_cases c : s0 = 0
    · refine ⟨_, Ev.step (f := fun _ => some (s7.toList == ([10] : List UInt8))) (fun k => ?_) (Ev.now _), fun h => ⟨c, ?_⟩⟩
      · simp only [spec_LsStyled.l1]
        rw [if_neg hk', if_pos c]
      · apply bytes_ext
        have h := eq_of_beq h
        rw [toList_data] at h
        exact h
    · refine ⟨false, Ev.step (f := fun _ => some false) (fun k => ?_) (Ev.now _), fun h => by cases h⟩
      simp only [spec_LsStyled.l1]
      rw [if_neg hk', if_neg c]
  intro d
  induction d with
  | zero => exact fun pos h1 h2 => base pos (by omega)
  | succ d ih =>
    intro pos h1 h2
    by_cases hlt : pos < s5.size
    · obtain ⟨t1, t2, _⟩ := Text.decode_takes s5 pos hlt
      obtain ⟨bk, hk⟩ := wide_some (It.itR s5 (pos : Int))
      have eP : It.itP s5 (pos : Int) = ((pos + (Go.Utf8.decode s5 pos).2 : Nat) : Int) := rfl
      have hk' : It.itK (pos : Int) < (s5.size : Int) := by unfold It.itK; omega
      cases bk with
      | true =>
        refine ⟨false, Ev.step (f := fun _ => some false) (fun k => ?_) (Ev.now _), fun h => by cases h⟩
        simp only [spec_LsStyled.l1]
        rw [if_pos hk', hk]
        simp
      | false =>
        obtain ⟨b, hb, hg⟩ := ih (pos + (Go.Utf8.decode s5 pos).2) t2 (by omega)
        refine ⟨b, Ev.step (f := fun k => spec_LsStyled.l1 k s0 s1 s2 s3 s4 s5 s6 s7 s8 ((pos + (Go.Utf8.decode s5 pos).2 : Nat) : Int) s5) (fun k => ?_) hb, hg⟩
        simp only [spec_LsStyled.l1]
        rw [if_pos hk', hk, eP]
        simp
    · exact base pos (by omega)
theorem styled_l0 (s0 : Int) (s1 s2 s3 s4 s5 s6 s7 s8 : ByteArray) (hs : s5.size ≤ 4611686018427387904) (l : List ByteArray) (hl : l.length ≤ 1000) (hz : ∀ x ∈ l, x.size ≤ 4611686018427387904) : ∀ (r p : List ByteArray), l = p ++ r →
    ∃ b, Ev (fun k => spec_LsStyled.l0 k l (l.length : Int) (p.length : Int) s0 s1 s2 s3 s4 s5 s6 s7 s8) b ∧ (b = true → (∀ x ∈ r, x.size ≤ 20 ∧ Cl x.data.toList) ∧ s0 = 0 ∧ s7 = ⟨#[10]⟩) := by
  intro r
  induction r with
  | nil =>
    intro p hp
    obtain ⟨b, hb, hg⟩ := styled_l1 s0 s1 s2 s3 s4 s5 s6 s7 s8 hs s5.size 0 (by omega) (by omega)
    refine ⟨b, Ev.step (f := _) (fun k => ?_) hb, fun h => ⟨(fun x hx => by cases hx), hg h⟩⟩
    simp only [spec_LsStyled.l0]
    rw [if_neg (by rw [hp]; simp)]
    rfl
  | cons q r ih =>
    intro p hp
    have hlen : l.length = p.length + r.length + 1 := by rw [hp]; simp; omega
    have hrd : rdOf ByteArray.empty l (p.length : Int) = q := by rw [hp]; simp [rdOf, List.getD]
    obtain ⟨bs, hbs, gbs⟩ := simple_ev q (hz q (by rw [hp]; simp))
    by_cases c : (q.size : Int) > 20
    · refine ⟨false, Ev.step (f := fun _ => some false) (fun k => ?_) (Ev.now _), fun h => by cases h⟩
      simp only [spec_LsStyled.l0]
      rw [if_pos (by omega), if_pos (by omega), if_pos (by omega), hrd, if_pos c]
    · cases bs with
      | false =>
        refine ⟨false, Ev.step (f := _) (fun k => ?_) (Ev.bind (f := fun k t => if t = true then (spec_LsStyled.l0 k l (l.length : Int) (wrap64 ((p.length : Int) + 1)) s0 s1 s2 s3 s4 s5 s6 s7 s8) else (some false)) hbs (Ev.congr (f := fun _ => some false) (fun k => by rw [if_neg (by decide)]) (Ev.now _))), fun h => by cases h⟩
        simp only [spec_LsStyled.l0]
        rw [if_pos (by omega), if_pos (by omega), if_pos (by omega), hrd, if_neg c]
      | true =>
        obtain ⟨b, hb, hg⟩ := ih (p ++ [q]) (by rw [hp]; simp)
        rw [← succ_len (q := q) (by omega)] at hb
        refine ⟨b, Ev.step (f := _) (fun k => ?_) (Ev.bind (f := fun k t => if t = true then (spec_LsStyled.l0 k l (l.length : Int) (wrap64 ((p.length : Int) + 1)) s0 s1 s2 s3 s4 s5 s6 s7 s8) else (some false)) hbs (Ev.congr (fun k => by rw [if_pos rfl]) hb)), fun h => ⟨fun x hx => ?_, (hg h).2⟩⟩
        · simp only [spec_LsStyled.l0]
          rw [if_pos (by omega), if_pos (by omega), if_pos (by omega), hrd, if_neg c]
        · rcases List.mem_cons.1 hx with rfl | hx
          · exact ⟨by omega, gbs rfl⟩
          · exact (hg h).1 x hx
theorem styled_ev (s0 : Int) (s1 s2 s3 s4 s5 s6 s7 s8 : ByteArray) (hz : ∀ x ∈ [s1, s2, s3, s4, s5, s6, s8], x.size ≤ 4611686018427387904) : ∃ b, Ev (fun k => spec_LsStyled.f k s0 s1 s2 s3 s4 s5 s6 s7 s8) b ∧ (b = true → Styled s0 s1 s2 s3 s4 s5 s6 s7 s8) := by
  obtain ⟨b, hb, hg⟩ := styled_l0 s0 s1 s2 s3 s4 s5 s6 s7 s8 (hz s5 (by simp)) [s1, s2, s3, s4, s5, s6, s8] (by simp) hz [s1, s2, s3, s4, s5, s6, s8] [] rfl
  exact ⟨b, hb, hg⟩

/-! the steps that make a list -/
def items (l : List S33) : List (Int × ByteArray) := l.map fun x => (x.f1, x.f0)
theorem stepsL_append : ∀ (a b : List S38) (lv : Int) (xs : List (Int × ByteArray)), stepsL (a ++ b) lv xs = (stepsL a lv xs).bind fun s => stepsL b s.1 s.2
  | [], b, lv, xs => rfl
  | x :: a, b, lv, xs => by
    rw [List.cons_append, stepsL, stepsL, Option.bind_assoc]
    congr 1
    funext s
    exact stepsL_append a b s.1 s.2
theorem stepsL_snoc {a : List S38} {x : S38} {lv lv1 lv2 : Int} {xs xs1 xs2 : List (Int × ByteArray)} (h : stepsL a lv xs = some (lv1, xs1)) (h2 : stepL lv1 xs1 x = some (lv2, xs2)) : stepsL (a ++ [x]) lv xs = some (lv2, xs2) := by
  rw [stepsL_append, h]
  simp only [Option.bind_some, stepsL]
  rw [h2]
  rfl
/-- The level behind the items up to one. -/
def lvBehind (l : List S33) (i : Nat) : Int := if i = 0 then 0 else (itemAt l (i - 1)).f1
theorem take_items (l : List S33) (i : Nat) (h : i < l.length) : items (l.take (i + 1)) = items (l.take i) ++ [((itemAt l i).f1, (itemAt l i).f0)] := by
  have : itemAt l i = l[i] := by simp [itemAt, List.getD, h]
  rw [this]
  unfold items
  rw [List.take_succ_eq_append_getElem h, List.map_append]
  rfl
theorem flat_of {s : ByteArray} (hc : Cl s.data.toList) (hs : s.size ≤ 1000000) : Flat s := ⟨hc.no 9 (by decide), hc.no 10 (by decide), hc.no 13 (by decide), hs⟩
theorem steps_l2 (l : List S33) (hl : l.length ≤ 60) (hg : ∀ j < l.length, Good l j) (i : Nat) (hi : i < l.length)
    (next : ∀ acc : List S38, acc.length ≤ 1000000 → stepsL acc 0 [] = some ((itemAt l i).f1, items (l.take (i + 1))) → acc.length ≤ 200 * (i + 1) → ∃ t, Ev (fun k => spec_LsSteps.l0 k acc (itemAt l i).f1 l (l.length : Int) ((i + 1 : Nat) : Int)) t ∧ stepsL t 0 [] = some (lvBehind l l.length, items l) ∧ t.length ≤ 1000000) :
    ∀ (d : Nat) (lev : Int) (acc : List S38), (lev - (itemAt l i).f1).toNat ≤ d → (itemAt l i).f1 ≤ lev → lev ≤ 60 → stepsL acc 0 [] = some (lev, items (l.take i)) → acc.length + d + 1 ≤ 200 * (i + 1) →
    ∃ t, Ev (fun k => spec_LsSteps.l2 k acc lev l (l.length : Int) (i : Int) (itemAt l i).f0 (itemAt l i).f1) t ∧ stepsL t 0 [] = some (lvBehind l l.length, items l) ∧ t.length ≤ 1000000 := by
  obtain ⟨g1, g2, g3, g4⟩ := hg i hi
  have last : ∀ acc : List S38, stepsL acc 0 [] = some ((itemAt l i).f1, items (l.take i)) → acc.length + 1 ≤ 200 * (i + 1) →
      ∃ t, Ev (fun k => spec_LsSteps.l2 k acc (itemAt l i).f1 l (l.length : Int) (i : Int) (itemAt l i).f0 (itemAt l i).f1) t ∧ stepsL t 0 [] = some (lvBehind l l.length, items l) ∧ t.length ≤ 1000000 := by
    intro acc ha hlen
    have hst : stepL (itemAt l i).f1 (items (l.take i)) (⟨0, (itemAt l i).f0, []⟩ : S38) = some ((itemAt l i).f1, items (l.take (i + 1))) := by
      unfold stepL
      rw [if_pos rfl, if_pos ⟨flat_of g4 (by show (itemAt l i).f0.size ≤ 1000000; omega), by unfold items; simp; omega⟩, take_items l i hi]
    obtain ⟨t, ht, h1, h2⟩ := next (acc ++ [⟨0, (itemAt l i).f0, []⟩]) (by simp; omega) (stepsL_snoc ha hst) (by simp; omega)
    refine ⟨t, Ev.step (f := _) (fun k => ?_) ht, h1, h2⟩
    simp only [spec_LsSteps.l2]
    rw [if_neg (by omega), if_pos (by omega), w_succ i (by omega)]
  intro d
  induction d with
  | zero =>
    intro lev acc hd h1 h2 ha hlen
    obtain rfl : lev = (itemAt l i).f1 := by omega
    exact last acc ha (by omega)
  | succ d ih =>
    intro lev acc hd h1 h2 ha hlen
    by_cases hlt : lev > (itemAt l i).f1
    · have hst : stepL lev (items (l.take i)) (⟨3, ⟨#[]⟩, []⟩ : S38) = some (lev - 1, items (l.take i)) := by
        unfold stepL
        rw [if_neg (by decide), if_neg (by decide), if_pos rfl, if_pos (by omega)]
      obtain ⟨t, ht, h3, h4⟩ := ih (lev - 1) (acc ++ [⟨3, ⟨#[]⟩, []⟩]) (by omega) (by omega) (by omega) (stepsL_snoc ha hst) (by simp; omega)
      refine ⟨t, Ev.step (f := _) (fun k => ?_) ht, h3, h4⟩
      simp only [spec_LsSteps.l2]
      rw [if_pos hlt, if_pos (by omega), wrap64_id (by omega) (by omega)]
    · obtain rfl : lev = (itemAt l i).f1 := by omega
      exact last acc ha (by omega)
theorem steps_l0 (l : List S33) (hl : l.length ≤ 60) (hg : ∀ j < l.length, Good l j) : ∀ (d i : Nat) (acc : List S38), l.length - i ≤ d → i ≤ l.length → stepsL acc 0 [] = some (lvBehind l i, items (l.take i)) → acc.length ≤ 200 * i →
    ∃ t, Ev (fun k => spec_LsSteps.l0 k acc (lvBehind l i) l (l.length : Int) (i : Int)) t ∧ stepsL t 0 [] = some (lvBehind l l.length, items l) ∧ t.length ≤ 1000000 := by
  have base : ∀ (i : Nat) (acc : List S38), i = l.length → stepsL acc 0 [] = some (lvBehind l i, items (l.take i)) → acc.length ≤ 200 * i →
      ∃ t, Ev (fun k => spec_LsSteps.l0 k acc (lvBehind l i) l (l.length : Int) (i : Int)) t ∧ stepsL t 0 [] = some (lvBehind l l.length, items l) ∧ t.length ≤ 1000000 := by
    intro i acc hi ha hlen
    refine ⟨acc, Ev.step (f := fun _ => some acc) (fun k => ?_) (Ev.now _), ?_, by omega⟩
    · simp only [spec_LsSteps.l0]
      rw [if_neg (by omega)]
    · rw [hi, List.take_length] at ha
      exact ha
  intro d
  induction d with
  | zero => exact fun i acc h1 h2 => base i acc (by omega)
  | succ d ih =>
    intro i acc h1 h2 ha hlen
    by_cases hi : i < l.length
    · have hb := good_bd l i (fun j hj => hg j (by omega))
      obtain ⟨g1, g2, g3, g4⟩ := hg i hi
      have hlv : 0 ≤ lvBehind l i ∧ lvBehind l i ≤ 60 ∧ (itemAt l i).f1 ≤ lvBehind l i + 1 := by
        unfold lvBehind
        by_cases h0 : i = 0
        · rw [if_pos h0] at g2 ⊢
          omega
        · rw [if_neg h0] at g2 ⊢
          have := good_bd l (i - 1) (fun j hj => hg j (by omega))
          omega
      have next : ∀ acc : List S38, acc.length ≤ 1000000 → stepsL acc 0 [] = some ((itemAt l i).f1, items (l.take (i + 1))) → acc.length ≤ 200 * (i + 1) → ∃ t, Ev (fun k => spec_LsSteps.l0 k acc (itemAt l i).f1 l (l.length : Int) ((i + 1 : Nat) : Int)) t ∧ stepsL t 0 [] = some (lvBehind l l.length, items l) ∧ t.length ≤ 1000000 := by
        intro acc _ ha hlen
        have e : lvBehind l (i + 1) = (itemAt l i).f1 := by unfold lvBehind; rw [if_neg (by omega), Nat.add_sub_cancel]
        have := ih (i + 1) acc (by omega) (by omega)
        rw [e] at this
        exact this ha hlen
      have enter : ∀ t, Ev (fun k => spec_LsSteps.l1 k acc (lvBehind l i) l (l.length : Int) (i : Int) (itemAt l i).f0 (itemAt l i).f1) t → Ev (fun k => spec_LsSteps.l0 k acc (lvBehind l i) l (l.length : Int) (i : Int)) t := by
        intro t ht
        refine Ev.step (f := _) (fun k => ?_) ht
        simp only [spec_LsSteps.l0]
        rw [if_pos (by omega), if_pos (by omega), if_pos (by omega), rd_item]
      by_cases hup : lvBehind l i < (itemAt l i).f1
      · have hi0 : i ≠ 0 := by
          intro h0
          rw [if_pos h0] at g2
          omega
        have hst : stepL (lvBehind l i) (items (l.take i)) (⟨2, ⟨#[]⟩, []⟩ : S38) = some ((itemAt l i).f1, items (l.take i)) := by
          unfold stepL
          rw [if_neg (by decide), if_pos rfl, if_pos (by omega)]
          have hlast : indentLv (items (l.take i)) (lvBehind l i) = lvBehind l i + 1 := by
            obtain ⟨m, rfl⟩ : ∃ m, i = m + 1 := ⟨i - 1, by omega⟩
            rw [take_items l m (by omega)]
            unfold indentLv lvBehind
            simp
          rw [hlast]
          congr 2
          omega
        obtain ⟨t, ht, h3, h4⟩ := steps_l2 l hl hg i hi next 0 (itemAt l i).f1 (acc ++ [⟨2, ⟨#[]⟩, []⟩]) (by omega) (by omega) (by omega) (stepsL_snoc ha hst) (by simp; omega)
        refine ⟨t, enter t (Ev.step (f := fun k => spec_LsSteps.l1 k (acc ++ [⟨2, ⟨#[]⟩, []⟩]) (itemAt l i).f1 l (l.length : Int) (i : Int) (itemAt l i).f0 (itemAt l i).f1) (fun k => ?_) (Ev.step (f := _) (fun k => ?_) ht)), h3, h4⟩
        · simp only [spec_LsSteps.l1]
          rw [if_pos hup, if_pos (by omega), wrap64_id (by omega) (by omega), show lvBehind l i + 1 = (itemAt l i).f1 by omega]
        · simp only [spec_LsSteps.l1]
          rw [if_neg (by omega)]
      · obtain ⟨t, ht, h3, h4⟩ := steps_l2 l hl hg i hi next 60 (lvBehind l i) acc (by omega) (by omega) (by omega) ha (by omega)
        refine ⟨t, enter t (Ev.step (f := _) (fun k => ?_) ht), h3, h4⟩
        simp only [spec_LsSteps.l1]
        rw [if_neg hup]
    · exact base i acc (by omega) ha hlen
theorem steps_ev (l : List S33) (hl : l.length ≤ 60) (hg : ∀ j < l.length, Good l j) : ∃ t, Ev (fun k => spec_LsSteps.f k l) t ∧ stepsL t 0 [] = some (lvBehind l l.length, items l) ∧ t.length ≤ 1000000 :=
  steps_l0 l hl hg l.length 0 [] (by omega) (by omega) rfl (by simp)
/-- Lines behind the first one, each with its line feed ahead. -/
def tailJ (ps : List (List UInt8)) : List UInt8 := (ps.map fun p => 10 :: p).flatten
def toB (l : List UInt8) : ByteArray := ⟨l.toArray⟩
theorem lines_l0 (s : ByteArray) (hs : s.size ≤ 4611686018427387904) : ∀ (d pos : Nat) (done : List ByteArray) (cur : ByteArray) (c : List UInt8) (ps : List (List UInt8)),
    s.size - pos ≤ d → pos ≤ s.size → s.data.toList.drop pos = c ++ tailJ ps → Cl c → (∀ p ∈ ps, Cl p) → cur.size ≤ pos → done.length + ps.length ≤ 1000000 →
    Ev (fun k => spec_TxLines.l0 k (done ++ [cur]) (pos : Int) s) (done ++ [cur ++ toB c] ++ ps.map toB) := by
  have base : ∀ (pos : Nat) (done : List ByteArray) (cur : ByteArray) (c : List UInt8) (ps : List (List UInt8)), pos = s.size → s.data.toList.drop pos = c ++ tailJ ps →
      Ev (fun k => spec_TxLines.l0 k (done ++ [cur]) (pos : Int) s) (done ++ [cur ++ toB c] ++ ps.map toB) := by
    intro pos done cur c ps hp hd
    rw [List.drop_eq_nil_of_le (by rw [← size_list]; omega)] at hd
    have hd := hd.symm
    rw [List.append_eq_nil_iff] at hd
    obtain ⟨rfl, hps⟩ := hd
    have hps : ps = [] := by
      cases ps with
      | nil => rfl
      | cons p ps => simp [tailJ] at hps
    subst hps
    have e : cur ++ toB [] = cur := bytes_ext (by rw [data_append]; simp [toB])
    rw [e]
    refine Ev.step (f := fun _ => some (done ++ [cur] ++ [])) (fun k => ?_) (Ev.now _)
    simp only [spec_TxLines.l0]
    rw [if_neg (by unfold It.itK; omega), List.append_nil]
  intro d
  induction d with
  | zero => exact fun pos done cur c ps h1 h2 h3 _ _ _ _ => base pos done cur c ps (by omega) h3
  | succ d ih =>
    intro pos done cur c ps h1 h2 h3 hc hps hcur hlen
    by_cases hlt : pos < s.size
    · have hk' : It.itK (pos : Int) < (s.size : Int) := by unfold It.itK; omega
      have hd := Lib.decodeL_drop s pos
      obtain ⟨t1, t2, _⟩ := Text.decode_takes s pos hlt
      have eR : It.itR s (pos : Int) = ((Go.Utf8.decode s pos).1 : Int) := rfl
      have eP : It.itP s (pos : Int) = ((pos + (Go.Utf8.decode s pos).2 : Nat) : Int) := rfl
      cases hc with
      | nil =>
        cases ps with
        | nil =>
          have := congrArg List.length h3
          rw [List.length_drop, ← size_list] at this
          simp [tailJ] at this
          omega
        | cons p ps =>
          have h3' : s.data.toList.drop pos = 10 :: (p ++ tailJ ps) := by rw [h3]; simp [tailJ]
          rw [h3', head_lf] at hd
          have e10 : It.itR s (pos : Int) = 10 := by rw [eR, ← hd]; rfl
          have eP1 : It.itP s (pos : Int) = ((pos + 1 : Nat) : Int) := by rw [eP, ← hd]
          have hdr : s.data.toList.drop (pos + 1) = p ++ tailJ ps := by rw [← List.drop_drop, h3']; rfl
          have h := ih (pos + 1) (done ++ [cur]) ⟨#[]⟩ p ps (by omega) (by omega) hdr (hps p (by simp)) (fun q hq => hps q (by simp [hq])) (by show (0 : Nat) ≤ _; omega) (by simp at hlen ⊢; omega)
          have e1 : cur ++ toB [] = cur := bytes_ext (by rw [data_append]; simp [toB])
          have e2 : (⟨#[]⟩ : ByteArray) ++ toB p = toB p := bytes_ext (by rw [data_append]; simp)
          rw [e2] at h
          rw [e1]
          have e3 : done ++ [cur] ++ List.map toB (p :: ps) = done ++ [cur] ++ [toB p] ++ List.map toB ps := by simp
          rw [e3]
          refine Ev.step (f := _) (fun k => ?_) h
          simp only [spec_TxLines.l0]
          rw [if_pos hk', e10, if_pos rfl, if_pos (by simp at hlen ⊢; omega), eP1]
      | cons _ hne h32 h65 hcl =>
        have hda := head_append c (tailJ ps) hne h65
        rw [h3, hda] at hd
        have hw := Lib.decodeL_le c hne
        have hen := enc_head c hne h65
        rw [hd] at h32 h65 hw hen hcl
        have hesz : (Go.Utf8.encode (It.itR s (pos : Int))).size = (Go.Utf8.decode s pos).2 := by
          rw [size_list, eR, hen, List.length_take]
          omega
        have ew : wrap64 (((done ++ [cur]).length : Int) - 1) = (done.length : Int) := by
          rw [List.length_append, List.length_singleton]
          rw [wrap64_id (by omega) (by omega)]
          omega
        have erd : rdOf ByteArray.empty (done ++ [cur]) (done.length : Int) = cur := by simp [rdOf, List.getD]
        have eset : (done ++ [cur]).set ((done.length : Int)).toNat (cur ++ Go.Utf8.encode (It.itR s (pos : Int))) = done ++ [cur ++ Go.Utf8.encode (It.itR s (pos : Int))] := by
          rw [Int.toNat_natCast, List.set_append_right (h := Nat.le_refl _), Nat.sub_self]
          rfl
        have hdr : s.data.toList.drop (pos + (Go.Utf8.decode s pos).2) = c.drop (Go.Utf8.decode s pos).2 ++ tailJ ps := by
          rw [← List.drop_drop, h3, List.drop_append_of_le_length hw]
        have h := ih (pos + (Go.Utf8.decode s pos).2) done (cur ++ Go.Utf8.encode (It.itR s (pos : Int))) (c.drop (Go.Utf8.decode s pos).2) ps (by omega) t2 hdr hcl hps (by rw [ByteArray.size_append, hesz]; omega) hlen
        have e1 : cur ++ Go.Utf8.encode (It.itR s (pos : Int)) ++ toB (c.drop (Go.Utf8.decode s pos).2) = cur ++ toB c := bytes_ext (by
          rw [data_append, data_append, data_append, eR, hen, List.append_assoc]
          exact congrArg (cur.data.toList ++ ·) (show c.take (Go.Utf8.decode s pos).2 ++ c.drop (Go.Utf8.decode s pos).2 = c from List.take_append_drop _ _))
        rw [e1] at h
        refine Ev.step (f := _) (fun k => ?_) h
        simp only [spec_TxLines.l0]
        rw [if_pos hk', if_neg (by rw [eR]; omega), ew, if_pos (by omega), if_pos (by simp; omega), erd, if_pos (by rw [hesz]; omega), eset, eP]
    · exact base pos done cur c ps (by omega) h3
theorem lines_ev (s : ByteArray) (hs : s.size ≤ 4611686018427387904) (c : List UInt8) (ps : List (List UInt8)) (h : s.data.toList = c ++ tailJ ps) (hc : Cl c) (hps : ∀ p ∈ ps, Cl p) (hlen : ps.length ≤ 1000000) :
    Ev (fun k => spec_TxLines.f k s) (toB c :: ps.map toB) := by
  have h := lines_l0 s hs s.size 0 [] ⟨#[]⟩ c ps (by omega) (by omega) (by simpa using h) hc hps (by show (0 : Nat) ≤ 0; omega) (by simpa using hlen)
  have e : (⟨#[]⟩ : ByteArray) ++ toB c = toB c := bytes_ext (by rw [data_append]; simp)
  rw [e] at h
  exact h

/-- An item's line without the line feed. -/
def bodyL (st : Sty) (xs : List (Int × ByteArray)) (i : Nat) : List UInt8 :=
  prefL st.pre.data.toList st.vert.data.toList (blanks st.vert).data.toList (lvs xs (i + 1)) (lvAt xs i).toNat ++ (bulletOf st (topF i) (firstF xs i) (firstF xs i && lastF xs i) (lastF xs i) (bottomF xs i)).data.toList ++ [32] ++ (txAt xs i).data.toList
theorem lineL_body (st : Sty) (xs : List (Int × ByteArray)) (i : Nat) : lineL st xs i = nlT i ++ bodyL st xs i := by
  unfold lineL bodyL
  simp only [List.append_assoc]
theorem renderL_body (st : Sty) (xs : List (Int × ByteArray)) : ∀ n, renderL st xs (n + 1) = bodyL st xs 0 ++ tailJ ((List.range n).map fun i => bodyL st xs (i + 1))
  | 0 => by simp [renderL, lineL_body, tailJ, nlT]
  | n + 1 => by
    rw [renderL, renderL_body st xs n, lineL_body, List.range_succ, List.map_append, List.append_assoc]
    congr 1
    unfold tailJ
    rw [List.map_append, List.flatten_append]
    simp [nlT]
structure StyCl (st : Sty) : Prop where
  single : Cl st.single.data.toList
  top : Cl st.top.data.toList
  first : Cl st.first.data.toList
  middle : Cl st.middle.data.toList
  bottom : Cl st.bottom.data.toList
  pre : Cl st.pre.data.toList
  vert : Cl st.vert.data.toList
theorem bodyL_cl (st : Sty) (h : StyCl st) (xs : List (Int × ByteArray)) (i : Nat) (hx : Cl (txAt xs i).data.toList) : Cl (bodyL st xs i) := by
  unfold bodyL
  refine ((Cl.append (Cl.append ?_ ?_) (Cl.ascii (by simp))).append hx)
  · unfold prefL
    refine h.pre.append (Cl.flatten fun l hl => ?_)
    obtain ⟨k, _, rfl⟩ := List.mem_map.1 hl
    split
    · exact h.vert
    · refine Cl.ascii fun x hx => ?_
      unfold blanks at hx
      have : x ∈ Lib.repeatL [32] (Lib.runeCount st.vert) := by simpa using hx
      have key : ∀ n, x ∈ Lib.repeatL [32] n → x = 32 := by
        intro n
        induction n with
        | zero => intro h; simp [Lib.repeatL] at h
        | succ n ih =>
          intro h
          rw [Lib.repeatL_add, Lib.repeatL_one] at h
          rcases List.mem_append.1 h with h | h
          · exact ih h
          · simpa using h
      rw [key _ this]
      decide
  · unfold bulletOf
    repeat' split
    all_goals first | exact h.single | exact h.bottom | exact h.top | exact h.first | exact h.middle

theorem body_ends (st : Sty) (xs : List (Int × ByteArray)) (i : Nat) : ∃ X, bodyL st xs i = X ++ (txAt xs i).data.toList := ⟨_, rfl⟩
theorem txAt_items (l : List S33) (i : Nat) (hi : i < l.length) : txAt (items l) i = (itemAt l i).f0 := by
  have : itemAt l i = l[i] := by simp [itemAt, List.getD, hi]
  rw [this]
  simp [txAt, items, List.getD, hi]
/-- The law's own loop. -/
theorem law_l0 (l : List S33) (hl : l.length ≤ 60) (hz : ∀ j < l.length, Good l j) (st : Sty) (hb : ∀ i, (bodyL st (items l) i).length ≤ 1000000000000) (ls : List ByteArray) (hls : ls.length = l.length) (hat : ∀ i < l.length, ls.getD i ByteArray.empty = toB (bodyL st (items l) i)) :
    ∀ (d i : Nat), l.length - i ≤ d → i ≤ l.length → Ev (fun k => laws_FnListLines.l0 k ls l (l.length : Int) (i : Int)) true := by
  have base : ∀ i : Nat, i = l.length → Ev (fun k => laws_FnListLines.l0 k ls l (l.length : Int) (i : Int)) true := by
    intro i hi
    refine Ev.step (f := fun _ => some true) (fun k => ?_) (Ev.now _)
    simp only [laws_FnListLines.l0]
    rw [if_neg (by omega)]
  intro d
  induction d with
  | zero => exact fun i h1 h2 => base i (by omega)
  | succ d ih =>
    intro i h1 h2
    by_cases hi : i < l.length
    · have h := ih (i + 1) (by omega) (by omega)
      obtain ⟨X, hX⟩ := body_ends st (items l) i
      rw [txAt_items l i hi] at hX
      have erd : rdOf ByteArray.empty ls (i : Int) = toB (bodyL st (items l) i) := by
        rw [← hat i hi]
        simp [rdOf]
      have hsz : (toB (bodyL st (items l) i)).size = X.length + (itemAt l i).f0.size := by
        rw [size_list, size_list, ← List.length_append, ← hX]
        rfl
      have hbb := hb i
      rw [show (bodyL st (items l) i).length = (toB (bodyL st (items l) i)).size from (size_list (toB _)).symm] at hbb
      have ew : wrap64 (((toB (bodyL st (items l) i)).size : Int) - ((itemAt l i).f0.size : Int)) = (X.length : Int) := by
        rw [wrap64_id (by omega) (by omega)]
        omega
      refine Ev.step (f := _) (fun k => ?_) h
      simp only [laws_FnListLines.l0]
      rw [if_pos (by omega), if_pos (by omega), if_pos (by omega), if_pos (by omega), erd, rd_item, ew, if_neg (by omega), if_pos (by omega), if_pos (by omega), if_pos ?_, w_succ i (by omega)]
      rw [toList_data, toList_data, Int.toNat_natCast, Text.data_extract, hsz]
      show ((bodyL st (items l) i).drop X.length).take _ = _
      rw [hX, List.drop_left, List.take_of_length_le]
      rw [← size_list]
      omega
    · exact base i (by omega)
theorem lineL_body_len (st : Sty) (xs : List (Int × ByteArray)) (i : Nat) (h : StyOk st) (hx : ItemsOk xs) : (bodyL st xs i).length ≤ 1100000000 := by
  have := lineL_len st xs i h hx
  rw [lineL_body, List.length_append] at this
  omega
/-- Behind the guards. -/
theorem law_j1 (l : List S33) (hl : l.length ≤ 60) (h0 : l.length ≠ 0) (hg : ∀ j < l.length, Good l j) (s0 : Int) (s1 s2 s3 s4 s5 s6 s7 s8 : ByteArray) (hs : Styled s0 s1 s2 s3 s4 s5 s6 s7 s8) :
    Ev (fun k => laws_FnListLines.j1 k l false s0 s1 s2 s3 s4 s5 s6 s7 s8) true := by
  obtain ⟨t, ht, hst, htl⟩ := steps_ev l hl hg
  obtain ⟨hs1, hs2, hs3⟩ := hs
  simp only [List.mem_cons, List.not_mem_nil, or_false, forall_eq_or_imp, forall_eq] at hs1
  obtain ⟨⟨z1, k1⟩, ⟨z2, k2⟩, ⟨z3, k3⟩, ⟨z4, k4⟩, ⟨z5, k5⟩, ⟨z6, k6⟩, ⟨z8, k8⟩⟩ := hs1
  have hso : StyleOk s0 s1 s2 s3 s4 s5 s6 s7 s8 := ⟨hs2, by omega, by omega, by omega, by omega, by omega, by omega, by rw [hs3]; decide, by omega⟩
  obtain ⟨st, hstd⟩ : ∃ st : Sty, st = ⟨s0, s1, s2, s3, s4, s5, s6, s7, s8, emptyB⟩ := ⟨_, rfl⟩
  have hcl : StyCl st := by rw [hstd]; exact ⟨k1, k2, k3, k4, k6, k8, k5⟩
  have hok : StyOk st := by rw [hstd]; exact hso.sty
  have hit : ItemsOk (items l) := by
    intro x hx
    obtain ⟨y, hy, rfl⟩ := List.mem_map.1 hx
    obtain ⟨j, hj, rfl⟩ := List.getElem_of_mem hy
    have e : itemAt l j = l[j] := by simp [itemAt, List.getD, hj]
    have h1 := good_bd l j (fun i hi => hg i (by omega))
    obtain ⟨_, _, g3, g4⟩ := hg j hj
    rw [e] at h1 g3 g4
    exact ⟨h1.1, by show l[j].f1 ≤ 1000; omega, flat_of g4 (by show l[j].f0.size ≤ 1000000; omega)⟩
  have hren : impl_ListRender.f t s0 s1 s2 s3 s4 s5 s6 s7 s8 = some (toB (renderL st (items l) (items l).length)) := by
    unfold impl_ListRender.f
    rw [if_pos ⟨hso, htl⟩, hst, hstd]
    rfl
  obtain ⟨n, hn⟩ : ∃ n, l.length = n + 1 := ⟨l.length - 1, by omega⟩
  have hil : (items l).length = n + 1 := by unfold items; rw [List.length_map, hn]
  rw [hil, renderL_body] at hren
  have hclb : ∀ i, i < n + 1 → Cl (bodyL st (items l) i) := by
    intro i hi
    refine bodyL_cl st hcl (items l) i ?_
    rw [txAt_items l i (by omega)]
    exact (hg i (by omega)).2.2.2
  have hb : ∀ i, (bodyL st (items l) i).length ≤ 1000000000000 := fun i => Nat.le_trans (lineL_body_len st (items l) i hok hit) (by omega)
  have hsz : (toB (bodyL st (items l) 0 ++ tailJ ((List.range n).map fun i => bodyL st (items l) (i + 1)))).size ≤ 4611686018427387904 := by
    rw [← renderL_body, size_list]
    have := renderL_len st (items l) hok hit (n + 1)
    show (renderL st (items l) (n + 1)).length ≤ _
    omega
  have hlines := lines_ev _ hsz (bodyL st (items l) 0) ((List.range n).map fun i => bodyL st (items l) (i + 1)) rfl (hclb 0 (by omega)) (fun p hp => by
    obtain ⟨i, hi, rfl⟩ := List.mem_map.1 hp
    exact hclb (i + 1) (by have := List.mem_range.1 hi; omega)) (by simp; omega)
  have hlen : (toB (bodyL st (items l) 0) :: List.map toB ((List.range n).map fun i => bodyL st (items l) (i + 1))).length = l.length := by simp; omega
  have hat : ∀ i < l.length, (toB (bodyL st (items l) 0) :: List.map toB ((List.range n).map fun i => bodyL st (items l) (i + 1))).getD i ByteArray.empty = toB (bodyL st (items l) i) := by
    intro i hi
    cases i with
    | zero => rfl
    | succ i => simp [List.getD, show i < n by omega]
  have hend := law_l0 l hl hg st hb _ hlen hat l.length 0 (by omega) (by omega)
  have e3 : Ev (fun k => (spec_TxLines.f k (toB (bodyL st (items l) 0 ++ tailJ ((List.range n).map fun i => bodyL st (items l) (i + 1))))).bind fun t154 => (if (t154.length : Int) = (l.length : Int) then (laws_FnListLines.l0 k t154 l (l.length : Int) 0) else (some false))) true := by
    refine Ev.bind (f := fun k t154 => (if (t154.length : Int) = (l.length : Int) then (laws_FnListLines.l0 k t154 l (l.length : Int) 0) else (some false))) hlines (Ev.congr (fun k => ?_) hend)
    rw [if_pos (by rw [hlen])]
    rfl
  have e2 : Ev (fun k => (impl_ListRender.f t s0 s1 s2 s3 s4 s5 s6 s7 s8).bind fun t153 => ((spec_TxLines.f k t153).bind fun t154 => (if (t154.length : Int) = (l.length : Int) then (laws_FnListLines.l0 k t154 l (l.length : Int) 0) else (some false)))) true := by
    rw [hren]
    exact e3
  have e1 := Ev.bind (f := fun k t150 => (impl_ListRender.f t150 s0 s1 s2 s3 s4 s5 s6 s7 s8).bind fun t153 => ((spec_TxLines.f k t153).bind fun t154 => (if (t154.length : Int) = (l.length : Int) then (laws_FnListLines.l0 k t154 l (l.length : Int) 0) else (some false)))) ht e2
  refine Ev.step (fun k => ?_) e1
  simp only [laws_FnListLines.j1]
  rw [if_neg (by decide)]
theorem law_j1t (l : List S33) (s0 : Int) (s1 s2 s3 s4 s5 s6 s7 s8 : ByteArray) : Ev (fun k => laws_FnListLines.j1 k l true s0 s1 s2 s3 s4 s5 s6 s7 s8) true := by
  refine Ev.step (f := fun _ => some true) (fun k => ?_) (Ev.now _)
  simp only [laws_FnListLines.j1]
  rw [if_pos trivial]
theorem law_j0 (l : List S33) (hl : l.length ≤ 1000000000000000) (hz : ∀ x ∈ l, x.f0.size ≤ 140737488351232) (s0 : Int) (s1 s2 s3 s4 s5 s6 s7 s8 : ByteArray) (h : ∀ x ∈ [s1, s2, s3, s4, s5, s6, s8], x.size ≤ 4611686018427387904) (b : Bool) : Ev (fun k => laws_FnListLines.j0 k l b s0 s1 s2 s3 s4 s5 s6 s7 s8) true := by
  cases b with
  | true =>
    refine Ev.step (f := fun _ => some true) (fun k => ?_) (Ev.now _)
    simp only [laws_FnListLines.j0]
    rw [if_pos trivial]
  | false =>
    obtain ⟨br, hbr, gr⟩ := right_ev l hl hz
    refine Ev.step (f := fun k => (spec_LsRight.f k l).bind fun t148 => (if t148 = true then (if (l.length : Int) = 0 then (laws_FnListLines.j1 k l true s0 s1 s2 s3 s4 s5 s6 s7 s8) else ((spec_LsStyled.f k s0 s1 s2 s3 s4 s5 s6 s7 s8).bind fun t149 => (laws_FnListLines.j1 k l (!t149) s0 s1 s2 s3 s4 s5 s6 s7 s8))) else (laws_FnListLines.j1 k l true s0 s1 s2 s3 s4 s5 s6 s7 s8))) (fun k => ?_) (Ev.bind (f := fun k t148 => (if t148 = true then (if (l.length : Int) = 0 then (laws_FnListLines.j1 k l true s0 s1 s2 s3 s4 s5 s6 s7 s8) else ((spec_LsStyled.f k s0 s1 s2 s3 s4 s5 s6 s7 s8).bind fun t149 => (laws_FnListLines.j1 k l (!t149) s0 s1 s2 s3 s4 s5 s6 s7 s8))) else (laws_FnListLines.j1 k l true s0 s1 s2 s3 s4 s5 s6 s7 s8))) hbr ?_)
    · simp only [laws_FnListLines.j0]
      rw [if_neg (by decide)]
    · cases br with
      | false => exact Ev.congr (fun k => by rw [if_neg (by decide)]) (law_j1t l s0 s1 s2 s3 s4 s5 s6 s7 s8)
      | true =>
        obtain ⟨h60, hg⟩ := gr rfl
        by_cases c : (l.length : Int) = 0
        · exact Ev.congr (fun k => by rw [if_pos rfl, if_pos c]) (law_j1t l s0 s1 s2 s3 s4 s5 s6 s7 s8)
        · obtain ⟨bs, hbs, gs⟩ := styled_ev s0 s1 s2 s3 s4 s5 s6 s7 s8 h
          refine Ev.congr (f := fun k => (spec_LsStyled.f k s0 s1 s2 s3 s4 s5 s6 s7 s8).bind fun t149 => (laws_FnListLines.j1 k l (!t149) s0 s1 s2 s3 s4 s5 s6 s7 s8)) (fun k => by rw [if_pos rfl, if_neg c]) (Ev.bind (f := fun k t149 => (laws_FnListLines.j1 k l (!t149) s0 s1 s2 s3 s4 s5 s6 s7 s8)) hbs ?_)
          cases bs with
          | false => exact law_j1t l s0 s1 s2 s3 s4 s5 s6 s7 s8
          | true => exact law_j1 l h60 (by omega) hg s0 s1 s2 s3 s4 s5 s6 s7 s8 (gs rfl)
theorem FnListLines : laws_FnListLines.Pure := by
  intro l s0 s1 s2 s3 s4 s5 s6 s7 s8 hl _ h1 h2 h3 h4 h5 h6 h7 h8
  obtain ⟨hl1, _, hl2⟩ := hl
  have hl0 : l.length ≤ 1000000000000000 := by omega
  have hz : ∀ x ∈ l, x.f0.size ≤ 140737488351232 := fun x hx => (hl2 x hx).1
  have hs : ∀ x ∈ [s1, s2, s3, s4, s5, s6, s8], x.size ≤ 4611686018427387904 := by
    simp only [List.mem_cons, List.not_mem_nil, or_false, forall_eq_or_imp, forall_eq]
    omega
  obtain ⟨b1, hb1⟩ := fits1_ev l hl0
  obtain ⟨b3, hb3⟩ := fits3_some s0 s1 s2 s3 s4 s5 s6 s7 s8
  have j := law_j0 l hl0 hz s0 s1 s2 s3 s4 s5 s6 s7 s8 hs
  refine Ev.rounds (Ev.bind (f := fun k t146 => (if t146 = true then ((laws_zzFits3.f s0 s1 s2 s3 s4 s5 s6 s7 s8).bind fun t147 => (laws_FnListLines.j0 k l (!t147) s0 s1 s2 s3 s4 s5 s6 s7 s8)) else (laws_FnListLines.j0 k l true s0 s1 s2 s3 s4 s5 s6 s7 s8))) hb1 ?_)
  cases b1 with
  | false => exact Ev.congr (fun k => by rw [if_neg (by decide)]) (j true)
  | true => exact Ev.congr (fun k => by rw [if_pos rfl, hb3]; rfl) (j (!b3))
end Go.Proofs.YtmakcmggicedfaaDoor.Pure
