/- What stands ahead of an item's bullet: the style's prefix, and for each level a connector where the level goes on, blanks where it does not: what the package's list writes is what the specification says. -/
import Derived.Test.YthepbgakfkiliaaRPFnPartPrefixx2
import Derived.Test.YthepbgakfkiliaaRBase
namespace Go.Proofs.YthepbgakfkiliaaR.Pure
open Go.RowKit Go.Proofs.YthepbgakfkiliaaR.PFnPartPrefix Go.Proofs.YthepbgakfkiliaaRW.PrintWords Go.Proofs.YthepbgakfkiliaaRW.PrintLast Go.Proofs.YthepbgakfkiliaaRW.PrintMore
open Go.Proofs.YthepbgakfkiliaaR.Base Go.Proofs.YthepbgakfkiliaaR.Hand
set_option linter.unusedSimpArgs false
set_option linter.unusedVariables false

theorem fits_l0 (l : List Int) (hl : l.length ≤ 4000000000000000000) (a b c : Int) : ∀ (r p : List Int), l = p ++ r →
    ∃ z, Ev (fun k => laws_fits.l0 k l a b c (p.length : Int)) z ∧ (z = true → (l.length : Int) ≤ a ∧ ∀ x ∈ r, b ≤ x ∧ x ≤ c) := by
  intro r
  induction r with
  | nil =>
    intro p hp
    refine ⟨decide ((l.length : Int) ≤ a), Ev.step (f := fun _ => some (decide ((l.length : Int) ≤ a))) (fun k => ?_) (Ev.now _), fun h => ⟨of_decide_eq_true h, fun x hx => by simp at hx⟩⟩
    simp only [laws_fits.l0]
    rw [if_neg (by rw [hp]; simp)]
  | cons q r ih =>
    intro p hp
    have hlen : l.length = p.length + r.length + 1 := by rw [hp]; simp; omega
    have hrd := rd_at hp
    obtain ⟨z, hz, hg⟩ := ih (p ++ [q]) (by rw [hp]; simp)
    by_cases h1 : q < b
    · refine ⟨false, Ev.step (f := fun _ => some false) (fun k => ?_) (Ev.now _), fun h => by cases h⟩
      simp only [laws_fits.l0]
      rw [if_pos (by omega), if_pos (by omega), hrd, if_pos h1]
    · by_cases h2 : q > c
      · refine ⟨false, Ev.step (f := fun _ => some false) (fun k => ?_) (Ev.now _), fun h => by cases h⟩
        simp only [laws_fits.l0]
        rw [if_pos (by omega), if_pos (by omega), hrd, if_neg h1, if_pos h2]
      · refine ⟨z, Ev.step (f := fun k => laws_fits.l0 k l a b c ((p ++ [q]).length : Int)) (fun k => ?_) hz, fun h => ⟨(hg h).1, fun x hx => ?_⟩⟩
        · simp only [laws_fits.l0]
          rw [if_pos (by omega), if_pos (by omega), hrd, if_neg h1, if_neg h2, succ_len (q := q) (by omega)]
        · rcases List.mem_cons.1 hx with rfl | hx
          · omega
          · exact (hg h).2 x hx
theorem bt_at (s : ByteArray) (i : Nat) (h : i < s.size) : bt s (i : Int) = (s[i].toNat : Int) := by
  rw [bt_list]
  have h' : i < s.data.toList.length := by rw [← size_list]; exact h
  simp [List.getD, h]
  rfl
theorem single_l0 (s : ByteArray) (hs : s.size ≤ 4000000000000000000) : ∀ (d i : Nat), i ≤ s.size → s.size - i ≤ d →
    ∃ z, Ev (fun k => spec_Single.l0 k s (i : Int)) z ∧ (z = true → ∀ j (hj : j < s.size), i ≤ j → (s[j]'hj).toNat ≤ 126) := by
  intro d
  induction d with
  | zero =>
    intro i h1 h2
    refine ⟨true, Ev.step (f := fun _ => some true) (fun k => ?_) (Ev.now _), fun _ j hj h => by omega⟩
    simp only [spec_Single.l0]
    rw [if_neg (by omega)]
  | succ d ih =>
    intro i h1 h2
    by_cases hlt : i < s.size
    · obtain ⟨z, hz, hg⟩ := ih (i + 1) (by omega) (by omega)
      have hb := bt_at s i hlt
      by_cases c1 : bt s (i : Int) < 32
      · refine ⟨false, Ev.step (f := fun _ => some false) (fun k => ?_) (Ev.now _), fun h => by cases h⟩
        simp only [spec_Single.l0]
        rw [if_pos (by omega), if_pos (by omega), if_pos c1]
      · by_cases c2 : bt s (i : Int) > 126
        · refine ⟨false, Ev.step (f := fun _ => some false) (fun k => ?_) (Ev.now _), fun h => by cases h⟩
          simp only [spec_Single.l0]
          rw [if_pos (by omega), if_pos (by omega), if_neg c1, if_pos c2]
        · refine ⟨z, Ev.step (f := fun k => spec_Single.l0 k s ((i + 1 : Nat) : Int)) (fun k => ?_) hz, fun h j hj hij => ?_⟩
          · simp only [spec_Single.l0]
            have e : wrap64 ((i : Int) + 1) = ((i + 1 : Nat) : Int) := by rw [wrap64_id (by omega) (by omega)]; omega
            rw [if_pos (by omega), if_pos (by omega), if_neg c1, if_neg c2, e]
          · by_cases hj2 : i + 1 ≤ j
            · exact hg h j hj hj2
            · obtain rfl : j = i := by omega
              omega
    · refine ⟨true, Ev.step (f := fun _ => some true) (fun k => ?_) (Ev.now _), fun _ j hj h => by omega⟩
      simp only [spec_Single.l0]
      rw [if_neg (by omega)]
theorem more_l0 (l : List Int) (hl : l.length ≤ 4000000000000000000) (lv : Int) : ∀ (d i : Nat), l.length - i ≤ d → i ≤ 4000000000000000001 →
    Ev (fun k => spec_ListMore.l0 k l lv (i : Int)) (moreL (l.drop i) lv) := by
  intro d
  induction d with
  | zero =>
    intro i h1 h2
    refine Ev.step (f := fun _ => some _) (fun k => ?_) (Ev.now _)
    simp only [spec_ListMore.l0]
    rw [if_neg (by omega), List.drop_eq_nil_of_le (by omega)]
    rfl
  | succ d ih =>
    intro i h1 h2
    by_cases hlt : i < l.length
    · have hrd : rd l (i : Int) = l[i] := by simp [rd, List.getD, hlt]
      have hdrop : l.drop i = l[i] :: l.drop (i + 1) := List.drop_eq_getElem_cons hlt
      have e : wrap64 ((i : Int) + 1) = ((i + 1 : Nat) : Int) := by rw [wrap64_id (by omega) (by omega)]; omega
      rw [hdrop, moreL]
      by_cases c1 : l[i] = lv
      · refine Ev.step (f := fun _ => some _) (fun k => ?_) (Ev.now _)
        simp only [spec_ListMore.l0]
        rw [if_pos (by omega), if_pos (by omega), hrd, if_pos c1, if_neg (by omega), if_pos c1]
      · by_cases c2 : l[i] < lv
        · refine Ev.step (f := fun _ => some _) (fun k => ?_) (Ev.now _)
          simp only [spec_ListMore.l0]
          rw [if_pos (by omega), if_pos (by omega), hrd, if_neg c1, if_pos c2, if_pos c2]
        · rw [if_neg c2, if_neg c1]
          refine Ev.step (f := fun k => spec_ListMore.l0 k l lv ((i + 1 : Nat) : Int)) (fun k => ?_) (ih (i + 1) (by omega) (by omega))
          simp only [spec_ListMore.l0]
          rw [if_pos (by omega), if_pos (by omega), hrd, if_neg c1, if_neg c2, e]
    · refine Ev.step (f := fun _ => some _) (fun k => ?_) (Ev.now _)
      simp only [spec_ListMore.l0]
      rw [if_neg (by omega), List.drop_eq_nil_of_le (by omega)]
      rfl
theorem more_ev (l : List Int) (hl : l.length ≤ 1000000) (lv : Int) (a : Nat) (ha : a ≤ 1000000) : Ev (fun k => spec_ListMore.f k l lv (a : Int)) (moreL (l.drop (a + 1)) lv) := by
  have e : wrap64 ((a : Int) + 1) = ((a + 1 : Nat) : Int) := by rw [wrap64_id (by omega) (by omega)]; omega
  have h := more_l0 l (by omega) lv l.length (a + 1) (by omega) (by omega)
  rw [← e] at h
  exact h
theorem times_l0 (n : Nat) (hn : n ≤ 1000000000) : ∀ (d i : Nat) (acc : ByteArray), n - i ≤ d → i ≤ n → acc.data.toList = Lib.repeatL [32] i →
    ∃ s : ByteArray, s.data.toList = Lib.repeatL [32] n ∧ Ev (fun k => spec_Times.l0 k ⟨#[32]⟩ (n : Int) acc (i : Int)) s := by
  intro d
  induction d with
  | zero =>
    intro i acc h1 h2 ha
    obtain rfl : i = n := by omega
    refine ⟨acc, ha, Ev.step (f := fun _ => some acc) (fun k => ?_) (Ev.now _)⟩
    simp only [spec_Times.l0]
    rw [if_neg (by omega)]
  | succ d ih =>
    intro i acc h1 h2 ha
    by_cases hlt : i < n
    · have hz : acc.size = i := by rw [size_list, ha, Lib.repeatL_length]; simp
      have h1z : (⟨#[32]⟩ : ByteArray).size = 1 := rfl
      obtain ⟨s, hs, hev⟩ := ih (i + 1) (acc ++ ⟨#[32]⟩) (by omega) (by omega) (by rw [data_append, ha, Lib.repeatL_add, Lib.repeatL_one])
      refine ⟨s, hs, Ev.step (f := fun k => spec_Times.l0 k ⟨#[32]⟩ (n : Int) (acc ++ ⟨#[32]⟩) ((i + 1 : Nat) : Int)) (fun k => ?_) hev⟩
      simp only [spec_Times.l0]
      have e : wrap64 ((i : Int) + 1) = ((i + 1 : Nat) : Int) := by rw [wrap64_id (by omega) (by omega)]; omega
      rw [if_pos (by omega), if_pos (by omega), e]
    · obtain rfl : i = n := by omega
      refine ⟨acc, ha, Ev.step (f := fun _ => some acc) (fun k => ?_) (Ev.now _)⟩
      simp only [spec_Times.l0]
      rw [if_neg (by omega)]

theorem w_succ (i : Nat) (h : i ≤ 1000000000) : wrap64 ((i : Int) + 1) = ((i + 1 : Nat) : Int) := by rw [wrap64_id (by omega) (by omega)]; omega
/-- The law's loop. -/
theorem law_step (l : List Int) (a : Int) (acc : ByteArray) (i : Int) (s0 : Int) (s1 s2 s3 s4 s5 s6 s7 s8 : ByteArray) (k : Nat) (h0 : 0 ≤ a) (h1 : a < (l.length : Int)) : laws_FnPartPrefix.l0 (k + 1) l a acc i s0 s1 s2 s3 s4 s5 s6 s7 s8 = (if i < (rd l a) then ((spec_ListMore.f k l i a).bind fun t126 => (if t126 = true then (if acc.size + s5.size ≤ 9223372036854775807 then (laws_FnPartPrefix.l0 k l a (acc ++ s5) (wrap64 (i + 1)) s0 s1 s2 s3 s4 s5 s6 s7 s8) else (none)) else ((spec_Times.f k (⟨#[32]⟩ : ByteArray) (s5.size : Int)).bind fun t127 => (if acc.size + t127.size ≤ 9223372036854775807 then (laws_FnPartPrefix.l0 k l a (acc ++ t127) (wrap64 (i + 1)) s0 s1 s2 s3 s4 s5 s6 s7 s8) else (none))))) else ((impl_ListPrefix.f l a s0 s1 s2 s3 s4 s5 s6 s7 s8).bind fun t125 => (some (t125.toList == acc.toList)))) := by
  rw [laws_FnPartPrefix.l0, if_pos h0, if_pos h1]
set_option maxHeartbeats 2000000 in
theorem law_l0 (l : List Int) (a : Nat) (hl : l.length ≤ 60) (hlev : ∀ x ∈ l, 0 ≤ x ∧ x ≤ 20) (ha : a < l.length) (s0 : Int) (s1 s2 s3 s4 s5 s6 s7 s8 : ByteArray) (h58 : s5.size + s8.size ≤ 60) (h7 : s7.size ≤ 2147483647) (hv : ∀ j (hj : j < s5.size), (s5[j]'hj).toNat ≤ 126)
    (n : Nat) (hn : l[a] = (n : Int)) : ∀ (d i : Nat) (acc : ByteArray), n - i ≤ d → i ≤ n → acc.data.toList = prefL s8.data.toList s5.data.toList (blanks s5).data.toList (l.drop (a + 1)) i →
    Ev (fun k => laws_FnPartPrefix.l0 k l (a : Int) acc (i : Int) s0 s1 s2 s3 s4 s5 s6 s7 s8) true := by
  have hrc : Lib.runeCount s5 = s5.size := Lib.runeCount_ascii s5 (fun j hj => by have := hv j hj; omega)
  have hbl : (blanks s5).data.toList = Lib.repeatL [32] s5.size := by unfold blanks; rw [hrc]
  have hbll : (blanks s5).data.toList.length = s5.size := by rw [hbl, Lib.repeatL_length]; simp
  have hn20 : n ≤ 20 := by have := hlev l[a] (List.getElem_mem ha); omega
  have hrd : rd l (a : Int) = (n : Int) := by rw [← hn]; simp [rd, List.getD, ha]
  have hpl := prefL_len s8.data.toList s5.data.toList (blanks s5).data.toList (l.drop (a + 1)) 60 (by rw [← size_list]; omega) (by omega)
  have h5l := size_list s5
  have h8l := size_list s8
  have ending : ∀ acc : ByteArray, acc.data.toList = prefL s8.data.toList s5.data.toList (blanks s5).data.toList (l.drop (a + 1)) n →
      Ev (fun k => laws_FnPartPrefix.l0 k l (a : Int) acc (n : Int) s0 s1 s2 s3 s4 s5 s6 s7 s8) true := by
    intro acc hacc
    refine Ev.step (f := fun _ => some true) (fun k => ?_) (Ev.now _)
    rw [law_step _ _ _ _ _ _ _ _ _ _ _ _ _ _ (by omega) (by omega), hrd, if_neg (by omega)]
    unfold impl_ListPrefix.f impl_listStyle.f
    simp only [Option.bind_some]
    unfold list_ZzPrefix.f
    rw [if_pos ⟨⟨by omega, fun x hx => ⟨(hlev x hx).1, by have := (hlev x hx).2; omega⟩⟩, by omega, by omega, h7, by omega, by omega⟩]
    simp only [Option.bind_some, Option.some.injEq]
    rw [beq_iff_eq, toList_data, toList_data, hacc]
    unfold prefixOf
    have e : (l.getD (a : Int).toNat 0).toNat = n := by simp [List.getD, ha, hn]
    rw [e]
    rfl
  intro d
  induction d with
  | zero =>
    intro i acc h1 h2 hacc
    obtain rfl : i = n := by omega
    exact ending acc hacc
  | succ d ih =>
    intro i acc h1 h2 hacc
    by_cases hlt : i < n
    · have hz : acc.size ≤ 2000 := by
        rw [size_list, hacc]
        have := hpl i
        omega
      have hm := more_ev l (by omega) (i : Int) a (by omega)
      have hi9 : i ≤ 1000000000 := by omega
      have c1 : (i : Int) < (n : Int) := by omega
      have ca : (a : Int) < (l.length : Int) := by omega
      refine Ev.step (f := fun k => (spec_ListMore.f k l (i : Int) (a : Int)).bind fun t126 => (if t126 = true then (if acc.size + s5.size ≤ 9223372036854775807 then (laws_FnPartPrefix.l0 k l (a : Int) (acc ++ s5) ((i + 1 : Nat) : Int) s0 s1 s2 s3 s4 s5 s6 s7 s8) else (none)) else ((spec_Times.f k (⟨#[32]⟩ : ByteArray) (s5.size : Int)).bind fun t127 => (if acc.size + t127.size ≤ 9223372036854775807 then (laws_FnPartPrefix.l0 k l (a : Int) (acc ++ t127) ((i + 1 : Nat) : Int) s0 s1 s2 s3 s4 s5 s6 s7 s8) else (none))))) (fun k => (law_step l a acc i s0 s1 s2 s3 s4 s5 s6 s7 s8 k (by omega) ca).trans (by rw [hrd, if_pos c1, w_succ i hi9])) (Ev.bind hm ?_)
      cases hmm : moreL (l.drop (a + 1)) (i : Int) with
      | true =>
        have := ih (i + 1) (acc ++ s5) (by omega) (by omega) (by rw [data_append, hacc, prefL_succ, hmm, if_pos rfl])
        exact Ev.congr (fun k => by rw [if_pos rfl, if_pos (by omega)]) this
      | false =>
        obtain ⟨t, ht, htev⟩ := times_l0 s5.size (by omega) s5.size 0 ⟨#[]⟩ (by omega) (by omega) rfl
        have hts : t.size = s5.size := by rw [size_list, ht, Lib.repeatL_length]; simp
        have := ih (i + 1) (acc ++ t) (by omega) (by omega) (by rw [data_append, hacc, prefL_succ, hmm, if_neg (by decide), ht, hbl])
        refine Ev.congr (fun k => by rw [if_neg (by decide)]) (Ev.bind (g := fun k => spec_Times.f k (⟨#[32]⟩ : ByteArray) (s5.size : Int)) (a := t) htev (Ev.congr (fun k => ?_) this))
        rw [if_pos (by omega)]
    · obtain rfl : i = n := by omega
      exact ending acc hacc

/- ∀ (l0 : List Int) (a1 : Int) (a2_0 : Int) .. → ∃ k, laws_FnPartPrefix.f k l0 a1 a2_0 a2_1 a2_2 a2_3 a2_4 a2_5 a2_6 a2_7 a2_8 = some true -/
theorem FnPartPrefix : laws_FnPartPrefix.Pure := by
  intro l a s0 s1 s2 s3 s4 s5 s6 s7 s8 hl _ _ w1 w2 w3 w4 w5 w6 w7 w8
  refine Ev.rounds (g := fun k => laws_FnPartPrefix.f k l a s0 s1 s2 s3 s4 s5 s6 s7 s8) ?_
  have out0 : Ev (fun k => laws_FnPartPrefix.j0 k l a true s0 s1 s2 s3 s4 s5 s6 s7 s8) true := Ev.step (f := fun _ => some true) (fun k => by simp only [laws_FnPartPrefix.j0]; rw [if_pos trivial]) (Ev.now _)
  have out1 : Ev (fun k => laws_FnPartPrefix.j1 k l a true s0 s1 s2 s3 s4 s5 s6 s7 s8) true := Ev.step (f := fun _ => some true) (fun k => by simp only [laws_FnPartPrefix.j1]; rw [if_pos trivial]) (Ev.now _)
  by_cases c0 : (l.length : Int) > 2147483647
  · exact Ev.congr (fun k => by unfold laws_FnPartPrefix.f; rw [if_pos c0]) out0
  · have hz : ∃ b, laws_zzFits3.f s0 s1 s2 s3 s4 s5 s6 s7 s8 = some b ∧ (b = true → s7.size ≤ 2147483647) := by
      unfold laws_zzFits3.f
      repeat' split
      all_goals first
        | exact ⟨false, rfl, fun h => absurd h (by decide)⟩
        | exact ⟨true, rfl, fun _ => by omega⟩
    obtain ⟨b, hb, hb7⟩ := hz
    refine Ev.congr (f := fun k => laws_FnPartPrefix.j0 k l a (!b) s0 s1 s2 s3 s4 s5 s6 s7 s8) (fun k => by unfold laws_FnPartPrefix.f; rw [if_neg c0, hb]; rfl) ?_
    cases b with
    | false => exact out0
    | true =>
      have h7 := hb7 rfl
      obtain ⟨z, hz, hg⟩ := fits_l0 l (by omega) 60 0 20 l [] rfl
      refine Ev.step (fun k => by simp only [laws_FnPartPrefix.j0]; rw [if_neg (by decide)]) (Ev.bind (g := fun k => laws_fits.f k l 60 0 20) hz ?_)
      cases z with
      | false => exact Ev.congr (fun k => by rw [if_neg (by decide)]) out1
      | true =>
        obtain ⟨g1, g2⟩ := hg rfl
        refine Ev.congr (fun k => by rw [if_pos rfl]) (f := fun k => (if a < 0 then (laws_FnPartPrefix.j1 k l a true s0 s1 s2 s3 s4 s5 s6 s7 s8) else (if a ≥ (l.length : Int) then (laws_FnPartPrefix.j1 k l a true s0 s1 s2 s3 s4 s5 s6 s7 s8) else (if (wrap64 ((s5.size : Int) + (s8.size : Int))) > 60 then (laws_FnPartPrefix.j1 k l a true s0 s1 s2 s3 s4 s5 s6 s7 s8) else ((spec_Single.f k s5).bind fun t123 => (laws_FnPartPrefix.j1 k l a (!t123) s0 s1 s2 s3 s4 s5 s6 s7 s8)))))) ?_
        by_cases ca : a < 0
        · exact Ev.congr (fun k => by rw [if_pos ca]) out1
        · by_cases cb : a ≥ (l.length : Int)
          · exact Ev.congr (fun k => by rw [if_neg ca, if_pos cb]) out1
          · by_cases cc : wrap64 ((s5.size : Int) + (s8.size : Int)) > 60
            · exact Ev.congr (fun k => by rw [if_neg ca, if_neg cb, if_pos cc]) out1
            · rw [wrap64_id (by omega) (by omega)] at cc
              obtain ⟨y, hy, hyg⟩ := single_l0 s5 (by omega) s5.size 0 (by omega) (by omega)
              refine Ev.congr (fun k => by rw [if_neg ca, if_neg cb, wrap64_id (by omega) (by omega), if_neg cc]) (Ev.bind (g := fun k => spec_Single.f k s5) hy ?_)
              cases y with
              | false => exact out1
              | true =>
                obtain ⟨n, rfl⟩ := Int.eq_ofNat_of_zero_le (show 0 ≤ a by omega)
                have hnl : n < l.length := by omega
                obtain ⟨m, hm⟩ := Int.eq_ofNat_of_zero_le (g2 l[n] (List.getElem_mem hnl)).1
                have := law_l0 l n (by omega) g2 hnl s0 s1 s2 s3 s4 s5 s6 s7 s8 (by omega) h7 (fun j hj => hyg rfl j hj (by omega)) m hm m 0 s8 (by omega) (by omega) (by simp [prefL])
                exact Ev.step (f := fun k => laws_FnPartPrefix.l0 k l (n : Int) s8 0 s0 s1 s2 s3 s4 s5 s6 s7 s8) (fun k => by simp only [laws_FnPartPrefix.j1]; rw [if_neg (by decide)]) this

end Go.Proofs.YthepbgakfkiliaaR.Pure
