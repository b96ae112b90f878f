/- What the parts of FnListItems answer. -/
import Derived.Test.YtmakcmggicedfaaDoorPFnListItemsx3
import Derived.Test.YtmakcmggicedfaaDoorBase
import Derived.Test.YtmakcmggicedfaaDoorCl
namespace Go.Proofs.YtmakcmggicedfaaDoor.Items
open Go.RowKit Go.Proofs.YtmakcmggicedfaaDoor.PFnListItems Go.Proofs.YtmakcmggicedfaaDoorW.PrintWords Go.Proofs.YtmakcmggicedfaaDoorW.PrintLast Go.Proofs.YtmakcmggicedfaaDoorW.PrintMore
open Go.Proofs.YtmakcmggicedfaaDoor.Base Go.Proofs.YtmakcmggicedfaaDoor.Hand Go.Proofs.YtmakcmggicedfaaDoor.Cl Go.Proofs.YtmakcmggicedfaaDoor
set_option linter.unusedSimpArgs false
set_option linter.unusedVariables false
set_option maxRecDepth 10000

theorem w_succ (i : Nat) (h : i ≤ 1000000000000000) : wrap64 ((i : Int) + 1) = ((i + 1 : Nat) : Int) := by rw [wrap64_id (by omega) (by omega)]; omega
theorem known_some (r : Int) : ∃ b, spec_TxKnown.f r = some b ∧ (b = true → 32 ≤ r ∧ r ≤ 65374) := by
  have h1 : ∃ b, spec_TxBoxed.f r = some b ∧ (b = true → 32 ≤ r ∧ r ≤ 65374) := by
    unfold spec_TxBoxed.f
    split
    · exact ⟨_, rfl, fun h => by have := of_decide_eq_true h; omega⟩
    · exact ⟨_, rfl, fun h => by cases h⟩
  have h2 : ∃ b, spec_TxWide.f r = some b ∧ (b = true → 32 ≤ r ∧ r ≤ 65374) := by
    unfold spec_TxWide.f
    repeat' split
    all_goals
      refine ⟨_, rfl, fun h => ?_⟩
      first
        | cases h; done
        | omega
        | (have := of_decide_eq_true h; omega)
  obtain ⟨b1, h1, g1⟩ := h1
  obtain ⟨b2, h2, g2⟩ := h2
  unfold spec_TxKnown.f
  rw [h1, h2]
  simp only [Option.bind_some]
  repeat' split
  all_goals first
    | exact ⟨_, rfl, fun _ => by omega⟩
    | (rename_i h; exact ⟨_, rfl, fun _ => g1 h⟩)
    | exact ⟨_, rfl, g2⟩
theorem wide_some (r : Int) : ∃ b, spec_TxWide.f r = some b := by
  unfold spec_TxWide.f
  repeat' split
  all_goals exact ⟨_, rfl⟩
/-- A text whose characters are all known. -/
theorem simple_l0 (s : ByteArray) (hs : s.size ≤ 4611686018427387904) : ∀ (d pos : Nat), pos ≤ s.size → s.size - pos ≤ d →
    ∃ b, Ev (fun k => spec_TxSimple.l0 k false (pos : Int) s) b ∧ (b = true → Cl (s.data.toList.drop pos)) := by
  intro d
  induction d with
  | zero =>
    intro pos h1 h2
    refine ⟨true, Ev.step (f := fun _ => some true) (fun k => ?_) (Ev.now _), fun _ => ?_⟩
    · simp only [spec_TxSimple.l0]
      rw [if_neg (by unfold It.itK; omega)]
    · rw [List.drop_eq_nil_of_le (by rw [← size_list]; omega)]
      exact .nil
  | succ d ih =>
    intro pos h1 h2
    by_cases hlt : pos < s.size
    · obtain ⟨t1, t2, t3, t4, t5⟩ := Text.decode_takes s pos hlt
      obtain ⟨bk, hk, gk⟩ := known_some (It.itR s (pos : Int))
      have eR : It.itR s (pos : Int) = ((Go.Utf8.decode s pos).1 : Int) := rfl
      have eP : It.itP s (pos : Int) = ((pos + (Go.Utf8.decode s pos).2 : Nat) : Int) := rfl
      have hk' : It.itK (pos : Int) < (s.size : Int) := by unfold It.itK; omega
      cases bk with
      | false =>
        refine ⟨false, Ev.step (f := fun _ => some false) (fun k => ?_) (Ev.now _), fun h => by cases h⟩
        simp only [spec_TxSimple.l0]
        rw [if_pos hk', hk]
        simp
      | true =>
        obtain ⟨b, hb, hg⟩ := ih (pos + (Go.Utf8.decode s pos).2) t2 (by omega)
        refine ⟨b, Ev.step (f := fun k => spec_TxSimple.l0 k false ((pos + (Go.Utf8.decode s pos).2 : Nat) : Int) s) (fun k => ?_) hb, fun h => ?_⟩
        · simp only [spec_TxSimple.l0]
          rw [if_pos hk', hk, eP]
          simp
        · have hr := gk rfl
          rw [eR] at hr
          have hd := Lib.decodeL_drop s pos
          refine Cl.cons _ ?_ ?_ ?_ ?_
          · intro e
            have := congrArg List.length e
            rw [List.length_drop, ← size_list] at this
            simp at this
            omega
          · rw [hd]; omega
          · rw [hd]; omega
          · rw [hd, List.drop_drop]
            exact hg h
    · refine ⟨true, Ev.step (f := fun _ => some true) (fun k => ?_) (Ev.now _), fun _ => ?_⟩
      · simp only [spec_TxSimple.l0]
        rw [if_neg (by unfold It.itK; omega)]
      · rw [List.drop_eq_nil_of_le (by rw [← size_list]; omega)]
        exact .nil
theorem simple_ev (s : ByteArray) (hs : s.size ≤ 4611686018427387904) : ∃ b, Ev (fun k => spec_TxSimple.f k s false) b ∧ (b = true → Cl s.data.toList) := by
  obtain ⟨b, hb, hg⟩ := simple_l0 s hs s.size 0 (by omega) (by omega)
  exact ⟨b, hb, fun h => by simpa using hg h⟩

def itemAt (l : List S33) (j : Nat) : S33 := l.getD j z33
theorem rd_item (l : List S33) (j : Nat) : rd_T33 l (j : Int) = itemAt l j := by simp [rd_T33, itemAt]
/-- An item is right where it stands. -/
def Good (l : List S33) (j : Nat) : Prop := 0 ≤ (itemAt l j).f1 ∧ (itemAt l j).f1 ≤ (if j = 0 then 0 else (itemAt l (j - 1)).f1 + 1) ∧ (itemAt l j).f0.size ≤ 200 ∧ Cl (itemAt l j).f0.data.toList
theorem good_bd (l : List S33) : ∀ j, (∀ i ≤ j, Good l i) → 0 ≤ (itemAt l j).f1 ∧ (itemAt l j).f1 ≤ (j : Int)
  | 0, h => by
    have := h 0 (Nat.le_refl _)
    obtain ⟨h1, h2, _⟩ := this
    rw [if_pos rfl] at h2
    exact ⟨h1, by omega⟩
  | j + 1, h => by
    obtain ⟨h1, h2, _⟩ := h (j + 1) (Nat.le_refl _)
    rw [if_neg (by omega), Nat.add_sub_cancel] at h2
    have := good_bd l j (fun i hi => h i (by omega))
    exact ⟨h1, by omega⟩
theorem right_l0 (l : List S33) (hl : l.length ≤ 1000000000000000) (hz : ∀ x ∈ l, x.f0.size ≤ 140737488351232) : ∀ (d i : Nat), l.length - i ≤ d → i ≤ l.length → (∀ j < i, Good l j) →
    ∃ b, Ev (fun k => spec_LsRight.l0 k l l (l.length : Int) (i : Int)) b ∧ (b = true → l.length ≤ 60 ∧ ∀ j < l.length, Good l j) := by
  have base : ∀ i, i = l.length → (∀ j < i, Good l j) → ∃ b, Ev (fun k => spec_LsRight.l0 k l l (l.length : Int) (i : Int)) b ∧ (b = true → l.length ≤ 60 ∧ ∀ j < l.length, Good l j) := by
    intro i hi hg
    refine ⟨decide ((l.length : Int) ≤ 60), Ev.step (f := fun _ => some (decide ((l.length : Int) ≤ 60))) (fun k => ?_) (Ev.now _), fun h => ⟨?_, ?_⟩⟩
    · simp only [spec_LsRight.l0]
      rw [if_neg (by omega)]
    · have := of_decide_eq_true h
      omega
    · rw [← hi]; exact hg
  intro d
  induction d with
  | zero => exact fun i h1 h2 hg => base i (by omega) hg
  | succ d ih =>
    intro i h1 h2 hg
    by_cases hlt : i < l.length
    · have hsz : (itemAt l i).f0.size ≤ 140737488351232 := by
        have : itemAt l i = l[i] := by simp [itemAt, List.getD, hlt]
        rw [this]
        exact hz _ (List.getElem_mem hlt)
      obtain ⟨bs, hbs, gbs⟩ := simple_ev (itemAt l i).f0 (by omega)
      have key : ∀ top : Int, top = (if i = 0 then 0 else (itemAt l (i - 1)).f1 + 1) →
          ∃ b, Ev (fun k => if (itemAt l i).f1 < 0 then (some false) else (if (itemAt l i).f1 > top then (some false) else (if ((itemAt l i).f0.size : Int) > 200 then (some false) else ((spec_TxSimple.f k (itemAt l i).f0 false).bind fun t => (if t = true then (spec_LsRight.l0 k l l (l.length : Int) (wrap64 ((i : Int) + 1))) else (some false)))))) b ∧ (b = true → l.length ≤ 60 ∧ ∀ j < l.length, Good l j) := by
        intro top ht
        by_cases c1 : (itemAt l i).f1 < 0
        · exact ⟨false, Ev.congr (fun k => by rw [if_pos c1]) (Ev.now _), fun h => by cases h⟩
        by_cases c2 : (itemAt l i).f1 > top
        · exact ⟨false, Ev.congr (fun k => by rw [if_neg c1, if_pos c2]) (Ev.now _), fun h => by cases h⟩
        by_cases c3 : ((itemAt l i).f0.size : Int) > 200
        · exact ⟨false, Ev.congr (fun k => by rw [if_neg c1, if_neg c2, if_pos c3]) (Ev.now _), fun h => by cases h⟩
        cases bs with
        | false =>
          exact ⟨false, Ev.congr (fun k => by rw [if_neg c1, if_neg c2, if_neg c3]) (Ev.bind hbs (Ev.congr (fun k => by rw [if_neg (by decide)]) (Ev.now _))), fun h => by cases h⟩
        | true =>
          obtain ⟨b, hb, hgb⟩ := ih (i + 1) (by omega) (by omega) (fun j hj => by
            by_cases hji : j < i
            · exact hg j hji
            · obtain rfl : j = i := by omega
              exact ⟨by omega, by rw [← ht]; omega, by omega, gbs rfl⟩)
          rw [← w_succ i (by omega)] at hb
          exact ⟨b, Ev.congr (fun k => by rw [if_neg c1, if_neg c2, if_neg c3]) (Ev.bind hbs (Ev.congr (fun k => by rw [if_pos rfl]) hb)), hgb⟩
      by_cases h0 : i = 0
      · obtain ⟨b, hb, hgb⟩ := key 0 (by rw [if_pos h0])
        refine ⟨b, Ev.step (f := _) (fun k => ?_) hb, hgb⟩
        simp only [spec_LsRight.l0]
        rw [if_pos (by omega), if_pos (by omega), if_pos (by omega), if_neg (by omega), rd_item]
      · have hb1 := good_bd l (i - 1) (fun j hj => hg j (by omega))
        have ew : wrap64 ((i : Int) - 1) = ((i - 1 : Nat) : Int) := by rw [wrap64_id (by omega) (by omega)]; omega
        have ew2 : wrap64 ((itemAt l (i - 1)).f1 + 1) = (itemAt l (i - 1)).f1 + 1 := wrap64_id (by omega) (by omega)
        obtain ⟨b, hb, hgb⟩ := key ((itemAt l (i - 1)).f1 + 1) (by rw [if_neg h0])
        refine ⟨b, Ev.step (f := _) (fun k => ?_) hb, hgb⟩
        simp only [spec_LsRight.l0]
        rw [if_pos (by omega), if_pos (by omega), if_pos (by omega), if_pos (by omega), ew, if_pos (by omega), if_pos (by omega), rd_item, rd_item, ew2]
    · exact base i (by omega) hg
theorem right_ev (l : List S33) (hl : l.length ≤ 1000000000000000) (hz : ∀ x ∈ l, x.f0.size ≤ 140737488351232) : ∃ b, Ev (fun k => spec_LsRight.f k l) b ∧ (b = true → l.length ≤ 60 ∧ ∀ j < l.length, Good l j) :=
  right_l0 l hl hz l.length 0 (by omega) (by omega) (fun j hj => absurd hj (by omega))

theorem fits1_ev (l : List S33) (hl : l.length ≤ 1000000000000000) : ∃ b, Ev (fun k => laws_zzFits1.f k l) b := by
  have key : ∀ (d i : Nat), l.length - i ≤ d → i ≤ l.length → ∃ b, Ev (fun k => laws_zzFits1.l0 k l (l.length : Int) (i : Int)) b := by
    intro d
    induction d with
    | zero =>
      intro i h1 h2
      refine ⟨true, Ev.step (f := fun _ => some true) (fun k => ?_) (Ev.now _)⟩
      simp only [laws_zzFits1.l0]
      rw [if_neg (by omega)]
    | succ d ih =>
      intro i h1 h2
      by_cases hlt : i < l.length
      · obtain ⟨b, hb⟩ := ih (i + 1) (by omega) (by omega)
        by_cases c : ((itemAt l i).f0.size : Int) > 2147483647
        · refine ⟨false, Ev.step (f := fun _ => some false) (fun k => ?_) (Ev.now _)⟩
          simp only [laws_zzFits1.l0, laws_zzFits2.f]
          rw [if_pos (by omega), if_pos (by omega), if_pos (by omega), rd_item, if_pos c]
          simp
        · refine ⟨b, Ev.step (f := _) (fun k => ?_) hb⟩
          simp only [laws_zzFits1.l0, laws_zzFits2.f]
          rw [if_pos (by omega), if_pos (by omega), if_pos (by omega), rd_item, if_neg c, w_succ i (by omega)]
          simp
      · refine ⟨true, Ev.step (f := fun _ => some true) (fun k => ?_) (Ev.now _)⟩
        simp only [laws_zzFits1.l0]
        rw [if_neg (by omega)]
  unfold laws_zzFits1.f
  by_cases c : (l.length : Int) > 2147483647
  · exact ⟨false, Ev.congr (fun k => by rw [if_pos c]) (Ev.now _)⟩
  · obtain ⟨b, hb⟩ := key l.length 0 (by omega) (by omega)
    exact ⟨b, Ev.congr (fun k => by rw [if_neg c]; rfl) hb⟩
theorem fits3_some (s0 : Int) (s1 s2 s3 s4 s5 s6 s7 s8 : ByteArray) : ∃ b, laws_zzFits3.f s0 s1 s2 s3 s4 s5 s6 s7 s8 = some b := by
  unfold laws_zzFits3.f
  repeat' split
  all_goals exact ⟨_, rfl⟩

/-- What a style is. -/
def Styled (s0 : Int) (s1 s2 s3 s4 s5 s6 s7 s8 : ByteArray) : Prop :=
  (∀ x ∈ [s1, s2, s3, s4, s5, s6, s8], x.size ≤ 20 ∧ Cl x.data.toList) ∧ s0 = 0 ∧ s7 = ⟨#[10]⟩
theorem styled_l1 (s0 : Int) (s1 s2 s3 s4 s5 s6 s7 s8 : ByteArray) (hs : s5.size ≤ 4611686018427387904) : ∀ (d pos : Nat), pos ≤ s5.size → s5.size - pos ≤ d →
    ∃ b, Ev (fun k => spec_LsStyled.l1 k s0 s1 s2 s3 s4 s5 s6 s7 s8 (pos : Int) s5) b ∧ (b = true → s0 = 0 ∧ s7 = ⟨#[10]⟩) := by
  have base : ∀ pos : Nat, pos = s5.size → ∃ b, Ev (fun k => spec_LsStyled.l1 k s0 s1 s2 s3 s4 s5 s6 s7 s8 (pos : Int) s5) b ∧ (b = true → s0 = 0 ∧ s7 = ⟨#[10]⟩) := by
    intro pos hp
    have hk' : ¬ It.itK (pos : Int) < (s5.size : Int) := by unfold It.itK; omega
    by_cases c : s0 = 0
    · refine ⟨_, Ev.step (f := fun _ => some (s7.toList == ([10] : List UInt8))) (fun k => ?_) (Ev.now _), fun h => ⟨c, ?_⟩⟩
      · simp only [spec_LsStyled.l1]
        rw [if_neg hk', if_pos c]
      · apply bytes_ext
        have h := eq_of_beq h
        rw [toList_data] at h
        exact h
    · refine ⟨false, Ev.step (f := fun _ => some false) (fun k => ?_) (Ev.now _), fun h => by cases h⟩
      simp only [spec_LsStyled.l1]
      rw [if_neg hk', if_neg c]
  intro d
  induction d with
  | zero => exact fun pos h1 h2 => base pos (by omega)
  | succ d ih =>
    intro pos h1 h2
    by_cases hlt : pos < s5.size
    · obtain ⟨t1, t2, _⟩ := Text.decode_takes s5 pos hlt
      obtain ⟨bk, hk⟩ := wide_some (It.itR s5 (pos : Int))
      have eP : It.itP s5 (pos : Int) = ((pos + (Go.Utf8.decode s5 pos).2 : Nat) : Int) := rfl
      have hk' : It.itK (pos : Int) < (s5.size : Int) := by unfold It.itK; omega
      cases bk with
      | true =>
        refine ⟨false, Ev.step (f := fun _ => some false) (fun k => ?_) (Ev.now _), fun h => by cases h⟩
        simp only [spec_LsStyled.l1]
        rw [if_pos hk', hk]
        simp
      | false =>
        obtain ⟨b, hb, hg⟩ := ih (pos + (Go.Utf8.decode s5 pos).2) t2 (by omega)
        refine ⟨b, Ev.step (f := fun k => spec_LsStyled.l1 k s0 s1 s2 s3 s4 s5 s6 s7 s8 ((pos + (Go.Utf8.decode s5 pos).2 : Nat) : Int) s5) (fun k => ?_) hb, hg⟩
        simp only [spec_LsStyled.l1]
        rw [if_pos hk', hk, eP]
        simp
    · exact base pos (by omega)
theorem styled_l0 (s0 : Int) (s1 s2 s3 s4 s5 s6 s7 s8 : ByteArray) (hs : s5.size ≤ 4611686018427387904) (l : List ByteArray) (hl : l.length ≤ 1000) (hz : ∀ x ∈ l, x.size ≤ 4611686018427387904) : ∀ (r p : List ByteArray), l = p ++ r →
    ∃ b, Ev (fun k => spec_LsStyled.l0 k l (l.length : Int) (p.length : Int) s0 s1 s2 s3 s4 s5 s6 s7 s8) b ∧ (b = true → (∀ x ∈ r, x.size ≤ 20 ∧ Cl x.data.toList) ∧ s0 = 0 ∧ s7 = ⟨#[10]⟩) := by
  intro r
  induction r with
  | nil =>
    intro p hp
    obtain ⟨b, hb, hg⟩ := styled_l1 s0 s1 s2 s3 s4 s5 s6 s7 s8 hs s5.size 0 (by omega) (by omega)
    refine ⟨b, Ev.step (f := _) (fun k => ?_) hb, fun h => ⟨(fun x hx => by cases hx), hg h⟩⟩
    simp only [spec_LsStyled.l0]
    rw [if_neg (by rw [hp]; simp)]
    rfl
  | cons q r ih =>
    intro p hp
    have hlen : l.length = p.length + r.length + 1 := by rw [hp]; simp; omega
    have hrd : rdOf ByteArray.empty l (p.length : Int) = q := by rw [hp]; simp [rdOf, List.getD]
    obtain ⟨bs, hbs, gbs⟩ := simple_ev q (hz q (by rw [hp]; simp))
    by_cases c : (q.size : Int) > 20
    · refine ⟨false, Ev.step (f := fun _ => some false) (fun k => ?_) (Ev.now _), fun h => by cases h⟩
      simp only [spec_LsStyled.l0]
      rw [if_pos (by omega), if_pos (by omega), if_pos (by omega), hrd, if_pos c]
    · cases bs with
      | false =>
        refine ⟨false, Ev.step (f := _) (fun k => ?_) (Ev.bind (f := fun k t => if t = true then (spec_LsStyled.l0 k l (l.length : Int) (wrap64 ((p.length : Int) + 1)) s0 s1 s2 s3 s4 s5 s6 s7 s8) else (some false)) hbs (Ev.congr (f := fun _ => some false) (fun k => by rw [if_neg (by decide)]) (Ev.now _))), fun h => by cases h⟩
        simp only [spec_LsStyled.l0]
        rw [if_pos (by omega), if_pos (by omega), if_pos (by omega), hrd, if_neg c]
      | true =>
        obtain ⟨b, hb, hg⟩ := ih (p ++ [q]) (by rw [hp]; simp)
        rw [← succ_len (q := q) (by omega)] at hb
        refine ⟨b, Ev.step (f := _) (fun k => ?_) (Ev.bind (f := fun k t => if t = true then (spec_LsStyled.l0 k l (l.length : Int) (wrap64 ((p.length : Int) + 1)) s0 s1 s2 s3 s4 s5 s6 s7 s8) else (some false)) hbs (Ev.congr (fun k => by rw [if_pos rfl]) hb)), fun h => ⟨fun x hx => ?_, (hg h).2⟩⟩
        · simp only [spec_LsStyled.l0]
          rw [if_pos (by omega), if_pos (by omega), if_pos (by omega), hrd, if_neg c]
        · rcases List.mem_cons.1 hx with rfl | hx
          · exact ⟨by omega, gbs rfl⟩
          · exact (hg h).1 x hx
theorem styled_ev (s0 : Int) (s1 s2 s3 s4 s5 s6 s7 s8 : ByteArray) (hz : ∀ x ∈ [s1, s2, s3, s4, s5, s6, s8], x.size ≤ 4611686018427387904) : ∃ b, Ev (fun k => spec_LsStyled.f k s0 s1 s2 s3 s4 s5 s6 s7 s8) b ∧ (b = true → Styled s0 s1 s2 s3 s4 s5 s6 s7 s8) := by
  obtain ⟨b, hb, hg⟩ := styled_l0 s0 s1 s2 s3 s4 s5 s6 s7 s8 (hz s5 (by simp)) [s1, s2, s3, s4, s5, s6, s8] (by simp) hz [s1, s2, s3, s4, s5, s6, s8] [] rfl
  exact ⟨b, hb, hg⟩

/-! the steps that make a list -/
def items (l : List S33) : List (Int × ByteArray) := l.map fun x => (x.f1, x.f0)
theorem stepsL_append : ∀ (a b : List S38) (lv : Int) (xs : List (Int × ByteArray)), stepsL (a ++ b) lv xs = (stepsL a lv xs).bind fun s => stepsL b s.1 s.2
  | [], b, lv, xs => rfl
  | x :: a, b, lv, xs => by
    rw [List.cons_append, stepsL, stepsL, Option.bind_assoc]
    congr 1
    funext s
    exact stepsL_append a b s.1 s.2
theorem stepsL_snoc {a : List S38} {x : S38} {lv lv1 lv2 : Int} {xs xs1 xs2 : List (Int × ByteArray)} (h : stepsL a lv xs = some (lv1, xs1)) (h2 : stepL lv1 xs1 x = some (lv2, xs2)) : stepsL (a ++ [x]) lv xs = some (lv2, xs2) := by
  rw [stepsL_append, h]
  simp only [Option.bind_some, stepsL]
  rw [h2]
  rfl
/-- The level behind the items up to one. -/
def lvBehind (l : List S33) (i : Nat) : Int := if i = 0 then 0 else (itemAt l (i - 1)).f1
theorem take_items (l : List S33) (i : Nat) (h : i < l.length) : items (l.take (i + 1)) = items (l.take i) ++ [((itemAt l i).f1, (itemAt l i).f0)] := by
  have : itemAt l i = l[i] := by simp [itemAt, List.getD, h]
  rw [this]
  unfold items
  rw [List.take_succ_eq_append_getElem h, List.map_append]
  rfl
theorem flat_of {s : ByteArray} (hc : Cl s.data.toList) (hs : s.size ≤ 1000000) : Flat s := ⟨hc.no 9 (by decide), hc.no 10 (by decide), hc.no 13 (by decide), hs⟩
theorem steps_l2 (l : List S33) (hl : l.length ≤ 60) (hg : ∀ j < l.length, Good l j) (i : Nat) (hi : i < l.length)
    (next : ∀ acc : List S38, acc.length ≤ 1000000 → stepsL acc 0 [] = some ((itemAt l i).f1, items (l.take (i + 1))) → acc.length ≤ 200 * (i + 1) → ∃ t, Ev (fun k => spec_LsSteps.l0 k acc (itemAt l i).f1 l (l.length : Int) ((i + 1 : Nat) : Int)) t ∧ stepsL t 0 [] = some (lvBehind l l.length, items l) ∧ t.length ≤ 12000) :
    ∀ (d : Nat) (lev : Int) (acc : List S38), (lev - (itemAt l i).f1).toNat ≤ d → (itemAt l i).f1 ≤ lev → lev ≤ 60 → stepsL acc 0 [] = some (lev, items (l.take i)) → acc.length + d + 1 ≤ 200 * (i + 1) →
    ∃ t, Ev (fun k => spec_LsSteps.l2 k acc lev l (l.length : Int) (i : Int) (itemAt l i).f0 (itemAt l i).f1) t ∧ stepsL t 0 [] = some (lvBehind l l.length, items l) ∧ t.length ≤ 12000 := by
  obtain ⟨g1, g2, g3, g4⟩ := hg i hi
  have last : ∀ acc : List S38, stepsL acc 0 [] = some ((itemAt l i).f1, items (l.take i)) → acc.length + 1 ≤ 200 * (i + 1) →
      ∃ t, Ev (fun k => spec_LsSteps.l2 k acc (itemAt l i).f1 l (l.length : Int) (i : Int) (itemAt l i).f0 (itemAt l i).f1) t ∧ stepsL t 0 [] = some (lvBehind l l.length, items l) ∧ t.length ≤ 12000 := by
    intro acc ha hlen
    have hst : stepL (itemAt l i).f1 (items (l.take i)) (⟨0, (itemAt l i).f0, []⟩ : S38) = some ((itemAt l i).f1, items (l.take (i + 1))) := by
      unfold stepL
      rw [if_pos rfl, if_pos ⟨flat_of g4 (by show (itemAt l i).f0.size ≤ 1000000; omega), by unfold items; simp; omega⟩, take_items l i hi]
    obtain ⟨t, ht, h1, h2⟩ := next (acc ++ [⟨0, (itemAt l i).f0, []⟩]) (by simp; omega) (stepsL_snoc ha hst) (by simp; omega)
    refine ⟨t, Ev.step (f := _) (fun k => ?_) ht, h1, h2⟩
    simp only [spec_LsSteps.l2]
    rw [if_neg (by omega), if_pos (by omega), w_succ i (by omega)]
  intro d
  induction d with
  | zero =>
    intro lev acc hd h1 h2 ha hlen
    obtain rfl : lev = (itemAt l i).f1 := by omega
    exact last acc ha (by omega)
  | succ d ih =>
    intro lev acc hd h1 h2 ha hlen
    by_cases hlt : lev > (itemAt l i).f1
    · have hst : stepL lev (items (l.take i)) (⟨3, ⟨#[]⟩, []⟩ : S38) = some (lev - 1, items (l.take i)) := by
        unfold stepL
        rw [if_neg (by decide), if_neg (by decide), if_pos rfl, if_pos (by omega)]
      obtain ⟨t, ht, h3, h4⟩ := ih (lev - 1) (acc ++ [⟨3, ⟨#[]⟩, []⟩]) (by omega) (by omega) (by omega) (stepsL_snoc ha hst) (by simp; omega)
      refine ⟨t, Ev.step (f := _) (fun k => ?_) ht, h3, h4⟩
      simp only [spec_LsSteps.l2]
      rw [if_pos hlt, if_pos (by omega), wrap64_id (by omega) (by omega)]
    · obtain rfl : lev = (itemAt l i).f1 := by omega
      exact last acc ha (by omega)
theorem steps_l0 (l : List S33) (hl : l.length ≤ 60) (hg : ∀ j < l.length, Good l j) : ∀ (d i : Nat) (acc : List S38), l.length - i ≤ d → i ≤ l.length → stepsL acc 0 [] = some (lvBehind l i, items (l.take i)) → acc.length ≤ 200 * i →
    ∃ t, Ev (fun k => spec_LsSteps.l0 k acc (lvBehind l i) l (l.length : Int) (i : Int)) t ∧ stepsL t 0 [] = some (lvBehind l l.length, items l) ∧ t.length ≤ 12000 := by
  have base : ∀ (i : Nat) (acc : List S38), i = l.length → stepsL acc 0 [] = some (lvBehind l i, items (l.take i)) → acc.length ≤ 200 * i →
      ∃ t, Ev (fun k => spec_LsSteps.l0 k acc (lvBehind l i) l (l.length : Int) (i : Int)) t ∧ stepsL t 0 [] = some (lvBehind l l.length, items l) ∧ t.length ≤ 12000 := by
    intro i acc hi ha hlen
    refine ⟨acc, Ev.step (f := fun _ => some acc) (fun k => ?_) (Ev.now _), ?_, by omega⟩
    · simp only [spec_LsSteps.l0]
      rw [if_neg (by omega)]
    · rw [hi, List.take_length] at ha
      exact ha
  intro d
  induction d with
  | zero => exact fun i acc h1 h2 => base i acc (by omega)
  | succ d ih =>
    intro i acc h1 h2 ha hlen
    by_cases hi : i < l.length
    · have hb := good_bd l i (fun j hj => hg j (by omega))
      obtain ⟨g1, g2, g3, g4⟩ := hg i hi
      have hlv : 0 ≤ lvBehind l i ∧ lvBehind l i ≤ 60 ∧ (itemAt l i).f1 ≤ lvBehind l i + 1 := by
        unfold lvBehind
        by_cases h0 : i = 0
        · rw [if_pos h0] at g2 ⊢
          omega
        · rw [if_neg h0] at g2 ⊢
          have := good_bd l (i - 1) (fun j hj => hg j (by omega))
          omega
      have next : ∀ acc : List S38, acc.length ≤ 1000000 → stepsL acc 0 [] = some ((itemAt l i).f1, items (l.take (i + 1))) → acc.length ≤ 200 * (i + 1) → ∃ t, Ev (fun k => spec_LsSteps.l0 k acc (itemAt l i).f1 l (l.length : Int) ((i + 1 : Nat) : Int)) t ∧ stepsL t 0 [] = some (lvBehind l l.length, items l) ∧ t.length ≤ 12000 := by
        intro acc _ ha hlen
        have e : lvBehind l (i + 1) = (itemAt l i).f1 := by unfold lvBehind; rw [if_neg (by omega), Nat.add_sub_cancel]
        have := ih (i + 1) acc (by omega) (by omega)
        rw [e] at this
        exact this ha hlen
      have enter : ∀ t, Ev (fun k => spec_LsSteps.l1 k acc (lvBehind l i) l (l.length : Int) (i : Int) (itemAt l i).f0 (itemAt l i).f1) t → Ev (fun k => spec_LsSteps.l0 k acc (lvBehind l i) l (l.length : Int) (i : Int)) t := by
        intro t ht
        refine Ev.step (f := _) (fun k => ?_) ht
        simp only [spec_LsSteps.l0]
        rw [if_pos (by omega), if_pos (by omega), if_pos (by omega), rd_item]
      by_cases hup : lvBehind l i < (itemAt l i).f1
      · have hi0 : i ≠ 0 := by
          intro h0
          rw [if_pos h0] at g2
          omega
        have hst : stepL (lvBehind l i) (items (l.take i)) (⟨2, ⟨#[]⟩, []⟩ : S38) = some ((itemAt l i).f1, items (l.take i)) := by
          unfold stepL
          rw [if_neg (by decide), if_pos rfl, if_pos (by omega)]
          have hlast : indentLv (items (l.take i)) (lvBehind l i) = lvBehind l i + 1 := by
            obtain ⟨m, rfl⟩ : ∃ m, i = m + 1 := ⟨i - 1, by omega⟩
            rw [take_items l m (by omega)]
            unfold indentLv lvBehind
            simp
          rw [hlast]
          congr 2
          omega
        obtain ⟨t, ht, h3, h4⟩ := steps_l2 l hl hg i hi next 0 (itemAt l i).f1 (acc ++ [⟨2, ⟨#[]⟩, []⟩]) (by omega) (by omega) (by omega) (stepsL_snoc ha hst) (by simp; omega)
        refine ⟨t, enter t (Ev.step (f := fun k => spec_LsSteps.l1 k (acc ++ [⟨2, ⟨#[]⟩, []⟩]) (itemAt l i).f1 l (l.length : Int) (i : Int) (itemAt l i).f0 (itemAt l i).f1) (fun k => ?_) (Ev.step (f := _) (fun k => ?_) ht)), h3, h4⟩
        · simp only [spec_LsSteps.l1]
          rw [if_pos hup, if_pos (by omega), wrap64_id (by omega) (by omega), show lvBehind l i + 1 = (itemAt l i).f1 by omega]
        · simp only [spec_LsSteps.l1]
          rw [if_neg (by omega)]
      · obtain ⟨t, ht, h3, h4⟩ := steps_l2 l hl hg i hi next 60 (lvBehind l i) acc (by omega) (by omega) (by omega) ha (by omega)
        refine ⟨t, enter t (Ev.step (f := _) (fun k => ?_) ht), h3, h4⟩
        simp only [spec_LsSteps.l1]
        rw [if_neg hup]
    · exact base i acc (by omega) ha hlen
theorem steps_ev (l : List S33) (hl : l.length ≤ 60) (hg : ∀ j < l.length, Good l j) : ∃ t, Ev (fun k => spec_LsSteps.f k l) t ∧ stepsL t 0 [] = some (lvBehind l l.length, items l) ∧ t.length ≤ 12000 :=
  steps_l0 l hl hg l.length 0 [] (by omega) (by omega) rfl (by simp)

theorem alive : laws_lsAlive.f = some true := by kernel_rfl
theorem fits4_ev (l : List ByteArray) (hl : l.length ≤ 1000000000000000) : ∃ b, Ev (fun k => laws_zzFits4.f k l) b := by
  have key : ∀ (r p : List ByteArray), l = p ++ r → ∃ b, Ev (fun k => laws_zzFits4.l0 k l (l.length : Int) (p.length : Int)) b := by
    intro r
    induction r with
    | nil =>
      intro p hp
      refine ⟨true, Ev.step (f := fun _ => some true) (fun k => ?_) (Ev.now _)⟩
      simp only [laws_zzFits4.l0]
      rw [if_neg (by rw [hp]; simp)]
    | cons q r ih =>
      intro p hp
      have hlen : l.length = p.length + r.length + 1 := by rw [hp]; simp; omega
      have hrd : rdOf ByteArray.empty l (p.length : Int) = q := by rw [hp]; simp [rdOf, List.getD]
      by_cases c : (q.size : Int) > 2147483647
      · refine ⟨false, Ev.step (f := fun _ => some false) (fun k => ?_) (Ev.now _)⟩
        simp only [laws_zzFits4.l0]
        rw [if_pos (by omega), if_pos (by omega), if_pos (by omega), hrd, if_pos c]
      · obtain ⟨b, hb⟩ := ih (p ++ [q]) (by rw [hp]; simp)
        rw [← succ_len (q := q) (by omega)] at hb
        refine ⟨b, Ev.step (f := _) (fun k => ?_) hb⟩
        simp only [laws_zzFits4.l0]
        rw [if_pos (by omega), if_pos (by omega), if_pos (by omega), hrd, if_neg c]
  obtain ⟨b, hb⟩ := key l [] rfl
  unfold laws_zzFits4.f
  by_cases c : (l.length : Int) > 2147483647
  · exact ⟨false, Ev.congr (fun k => by rw [if_pos c]) (Ev.now _)⟩
  · exact ⟨b, Ev.congr (fun k => by rw [if_neg c]; rfl) hb⟩

/-- Items one by one. -/
def ones (l : List ByteArray) : List S38 := l.map fun s => ⟨0, s, []⟩
theorem ones_steps : ∀ (l : List ByteArray) (lv : Int) (xs : List (Int × ByteArray)), (∀ s ∈ l, Flat s) → xs.length + l.length ≤ 499 → stepsL (ones l) lv xs = some (lv, xs ++ l.map fun s => (lv, s))
  | [], lv, xs, _, _ => by simp [ones, stepsL]
  | s :: r, lv, xs, h, hn => by
    have hs : stepL lv xs (⟨0, s, []⟩ : S38) = some (lv, xs ++ [(lv, s)]) := by
      unfold stepL
      rw [if_pos rfl, if_pos ⟨h s (by simp), by simp at hn; omega⟩]
    show ((stepL lv xs (⟨0, s, []⟩ : S38)).bind fun q => stepsL (ones r) q.1 q.2) = _
    rw [hs]
    simp only [Option.bind_some]
    rw [ones_steps r lv (xs ++ [(lv, s)]) (fun x hx => h x (List.mem_cons_of_mem _ hx)) (by simp at hn ⊢; omega)]
    simp
theorem all_step (l : List ByteArray) (lv : Int) (xs : List (Int × ByteArray)) (h : ∀ s ∈ l, Flat s) (hn : xs.length + l.length ≤ 499) : stepL lv xs (⟨1, ⟨#[]⟩, l⟩ : S38) = some (lv, xs ++ l.map fun s => (lv, s)) := by
  unfold stepL
  rw [if_neg (by show ¬ (1 : Int) = 0; decide), if_neg (by show ¬ (1 : Int) = 2; decide), if_neg (by show ¬ (1 : Int) = 3; decide), if_pos rfl, if_pos ⟨h, by show xs.length + l.length < 500; omega⟩]
/-- Both roads make one list. -/
theorem both (t : List S38) (lv : Int) (l : List S33) (more : List ByteArray) (ht : stepsL t 0 [] = some (lv, items l)) (hl : l.length ≤ 60) (hm : more.length ≤ 20) (hf : ∀ s ∈ more, Flat s) :
    stepsL (t ++ ones more) 0 [] = some (lv, items l ++ more.map fun s => (lv, s)) ∧ stepsL (t ++ [⟨1, ⟨#[]⟩, more⟩]) 0 [] = some (lv, items l ++ more.map fun s => (lv, s)) := by
  have hi : (items l).length = l.length := by simp [items]
  refine ⟨?_, stepsL_snoc ht (all_step more lv (items l) hf (by rw [hi]; omega))⟩
  rw [stepsL_append, ht]
  exact ones_steps more lv (items l) hf (by rw [hi]; omega)
/-- The steps that spec.LsSteps makes bear no texts. -/
def Bare (t : List S38) : Prop := ∀ x ∈ t, x.f2 = []
theorem Bare.snoc {t : List S38} (h : Bare t) (a : Int) (s : ByteArray) : Bare (t ++ [⟨a, s, []⟩]) := by
  intro x hx
  rcases List.mem_append.1 hx with hx | hx
  · exact h x hx
  · simp at hx
    rw [hx]
theorem bare_l : ∀ k, (∀ (acc : List S38) (a : Int) (l : List S33) (b c : Int) (t : List S38), spec_LsSteps.l0 k acc a l b c = some t → Bare acc → Bare t) ∧ (∀ (acc : List S38) (a : Int) (l : List S33) (b c : Int) (s : ByteArray) (d : Int) (t : List S38), spec_LsSteps.l1 k acc a l b c s d = some t → Bare acc → Bare t) ∧ (∀ (acc : List S38) (a : Int) (l : List S33) (b c : Int) (s : ByteArray) (d : Int) (t : List S38), spec_LsSteps.l2 k acc a l b c s d = some t → Bare acc → Bare t)
  | 0 => ⟨fun _ _ _ _ _ t h => by simp [spec_LsSteps.l0] at h, fun _ _ _ _ _ _ _ t h => by simp [spec_LsSteps.l1] at h, fun _ _ _ _ _ _ _ t h => by simp [spec_LsSteps.l2] at h⟩
  | k + 1 => by
    obtain ⟨ih0, ih1, ih2⟩ := bare_l k
    refine ⟨?_, ?_, ?_⟩
    · intro acc a l b c t h hb
      simp only [spec_LsSteps.l0] at h
      repeat' split at h
      all_goals first
        | cases h; done
        | exact ih1 _ _ _ _ _ _ _ _ h hb
        | (cases h; exact hb)
    · intro acc a l b c s d t h hb
      simp only [spec_LsSteps.l1] at h
      repeat' split at h
      all_goals first
        | cases h; done
        | exact ih1 _ _ _ _ _ _ _ _ h (hb.snoc _ _)
        | exact ih2 _ _ _ _ _ _ _ _ h hb
    · intro acc a l b c s d t h hb
      simp only [spec_LsSteps.l2] at h
      repeat' split at h
      all_goals first
        | cases h; done
        | exact ih2 _ _ _ _ _ _ _ _ h (hb.snoc _ _)
        | exact ih0 _ _ _ _ _ _ h (hb.snoc _ _)
theorem bare (k : Nat) (l : List S33) (t : List S38) (h : spec_LsSteps.f k l = some t) : Bare t := (bare_l k).1 _ _ _ _ _ _ h (fun x hx => by cases hx)
end Go.Proofs.YtmakcmggicedfaaDoor.Items
