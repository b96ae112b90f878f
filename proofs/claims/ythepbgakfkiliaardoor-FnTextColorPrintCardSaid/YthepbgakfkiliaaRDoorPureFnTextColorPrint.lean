/- Texts are printed in a color: the color's sequence, the texts, all off: what text.Color.Sprint writes is what the specification says. -/
import Derived.Test.YthepbgakfkiliaaRDoorPFnTextColorPrintx3
import Derived.Test.YthepbgakfkiliaaRDoorBase
import Derived.Test.YthepbgakfkiliaaRDoorText
import Derived.Test.YthepbgakfkiliaaRDoorEscapeLaw
namespace Go.Proofs.YthepbgakfkiliaaRDoor.Pure
open Go.RowKit Go.Proofs.YthepbgakfkiliaaRDoor.PFnTextColorPrint Go.Proofs.YthepbgakfkiliaaRDoorW.PrintWords Go.Proofs.YthepbgakfkiliaaRDoorW.PrintLast Go.Proofs.YthepbgakfkiliaaRDoorW.PrintMore
open Go.Proofs.YthepbgakfkiliaaRDoor.Base Go.Proofs.YthepbgakfkiliaaRDoor.Hand

theorem dec_step {n : Nat} (h : 10 ≤ n) : dec n = dec (n / 10) ++ [UInt8.ofNat (48 + n % 10)] := by
  have h1 : n / 10 ≠ 0 := by omega
  simp only [dec, h1, if_false, if_neg (show ¬ n = 0 by omega), pre_pos (show n ≠ 0 by omega)]
theorem dec_small {n : Nat} (h : n < 10) : dec n = [UInt8.ofNat (48 + n)] := by
  by_cases h0 : n = 0
  · subst h0; rfl
  · have h2 : n / 10 = 0 := by omega
    have h3 : n % 10 = n := by omega
    simp only [dec, if_neg h0, pre_pos h0, h2, pre_zero, h3, List.nil_append]
theorem dec_eq : ∀ n : Nat, dec n = Lib.decDigits n := by
  intro n
  induction n using Nat.strongRecOn with
  | _ n ih =>
    rw [Lib.decDigits]
    by_cases h : n < 10
    · rw [dif_pos h, dec_small h]
    · rw [dif_neg h, dec_step (by omega), ih (n / 10) (by omega)]
theorem itoa_eq (n : Nat) (h : n < 9223372036854775808) : lightstrconv_Itoa.f (n : Int) = some ⟨(dec n).toArray⟩ := by
  unfold lightstrconv_Itoa.f lightstrconv_FormatInt.f
  rw [if_neg (by omega)]
  have hw : IntKind.u64.wrap (n : Int) = (n : Int) := by
    show (n : Int) % 18446744073709551616 = n
    omega
  rw [hw]
  unfold lightstrconv_FormatUint.f
  rw [if_pos (by omega)]
  simp
theorem itoa_std (n : Nat) (h : n < 9223372036854775808) : strconv_Itoa.f (n : Int) = some ⟨(dec n).toArray⟩ := by
  unfold strconv_Itoa.f
  rw [if_pos (by omega), dec_eq, Lib.itoa, if_neg (by omega)]
  simp
/-- The text of a code. -/
def seqOf (n : Nat) : ByteArray := ((⟨#[27, 91]⟩ : ByteArray) ++ ⟨(dec n).toArray⟩) ++ (⟨#[109]⟩ : ByteArray)
theorem dsize {n : Nat} (h : n < 18446744073709551616) : (⟨(dec n).toArray⟩ : ByteArray).size ≤ 20 := by
  have := dec_len h
  simpa [ByteArray.size] using this
theorem seq_of (n k : Nat) (h : n < 1000) : text_Color_EscapeSeq.f (k + 2) (n : Int) = some (seqOf n) := by
  have h1 := dsize (n := n) (by omega)
  unfold text_Color_EscapeSeq.f
  rw [if_neg (by omega)]
  rw [text_Color_EscapeSeq.j0, if_neg (by decide), if_neg (by omega), text_Color_EscapeSeq.j1, if_neg (by decide), itoa_eq n (by omega)]
  simp only [Option.bind_some]
  rw [if_pos (by omega), if_pos (by rw [ByteArray.size_append]; have : (⟨#[27, 91]⟩ : ByteArray).size = 2 := rfl; omega)]
  rfl
theorem tx_of (n k : Nat) (h : n < 1000) : spec_TxSequence.f (k + 2) [(n : Int)] = some (seqOf n) := by
  have h1 := dsize (n := n) (by omega)
  unfold spec_TxSequence.f
  rw [if_neg (by simp)]
  have hr : rd [(n : Int)] 0 = (n : Int) := rfl
  have hz : (⟨#[27, 91]⟩ : ByteArray).size = 2 := rfl
  have hw : wrap64 ((0 : Int) + 1) = 1 := by unfold wrap64; omega
  simp only [spec_TxSequence.l0, List.length_singleton, hr, hw]
  rw [if_pos (by decide), if_pos (by decide), if_pos (by decide), if_neg (by decide), itoa_std n (by omega)]
  simp only [Option.bind_some]
  rw [if_pos (by omega), if_neg (by decide), if_pos (by rw [ByteArray.size_append]; omega)]
  rfl
theorem att (a : Int) (h : spec_TxAttribute.f a = some true) : 1 ≤ a ∧ a ≤ 107 := by
  unfold spec_TxAttribute.f at h
  by_cases h1 : 1 ≤ a
  · refine ⟨h1, ?_⟩
    by_cases h2 : a ≤ 107
    · exact h2
    · exfalso
      rw [if_pos (by omega), if_neg (by omega), if_pos (by omega), if_neg (by omega), if_pos (by omega), if_neg (by omega), if_pos (by omega), if_neg (by omega), if_pos (by omega)] at h
      simp only [Option.some.injEq, decide_eq_true_eq] at h
      exact h2 h
  · exfalso
    rw [if_neg (by omega), if_neg (by omega), if_neg (by omega), if_neg (by omega), if_neg (by omega)] at h
    cases h
theorem att_some (a : Int) : ∃ b, spec_TxAttribute.f a = some b := by
  unfold spec_TxAttribute.f
  repeat' split
  all_goals exact ⟨_, rfl⟩
theorem fits4_l0 (l : List ByteArray) (hl : l.length ≤ 2147483647) : ∀ (r p : List ByteArray), l = p ++ r →
    ∃ b, (b = true → ∀ x ∈ r, x.size ≤ 2147483647) ∧ Ev (fun k => laws_zzFits4.l0 k l (l.length : Int) (p.length : Int)) b := by
  intro r
  induction r with
  | nil =>
    intro p hp
    refine ⟨true, fun _ x hx => by simp at hx, Ev.step (f := fun _ => some true) (fun k => ?_) (Ev.now _)⟩
    simp only [laws_zzFits4.l0]
    rw [if_neg (by rw [hp]; simp)]
  | cons q r ih =>
    intro p hp
    have hlen : l.length = p.length + r.length + 1 := by rw [hp]; simp; omega
    have hrd : rdOf ByteArray.empty l (p.length : Int) = q := by rw [hp]; simp [rdOf, List.getD]
    obtain ⟨b, hb, hev⟩ := ih (p ++ [q]) (by rw [hp]; simp)
    by_cases hq : (q.size : Int) > 2147483647
    · refine ⟨false, (fun h => by cases h), Ev.step (f := fun _ => some false) (fun k => ?_) (Ev.now _)⟩
      simp only [laws_zzFits4.l0]
      rw [if_pos (by omega), if_pos (by omega), if_pos (by omega), hrd, if_pos hq]
    · refine ⟨b, fun h x hx => ?_, Ev.step (f := fun k => laws_zzFits4.l0 k l (l.length : Int) ((p ++ [q]).length : Int)) (fun k => ?_) hev⟩
      · rcases List.mem_cons.1 hx with rfl | hx
        · omega
        · exact hb h x hx
      · simp only [laws_zzFits4.l0]
        rw [if_pos (by omega), if_pos (by omega), if_pos (by omega), hrd, if_neg hq, succ_len (q := q) (by omega)]
theorem fits4_ev (l : List ByteArray) : ∃ b, (b = true → l.length ≤ 2147483647 ∧ ∀ x ∈ l, x.size ≤ 2147483647) ∧ Ev (fun k => laws_zzFits4.f k l) b := by
  unfold laws_zzFits4.f
  by_cases h : (l.length : Int) > 2147483647
  · exact ⟨false, (fun h => by cases h), Ev.congr (f := fun _ => some false) (fun k => by rw [if_pos h]) (Ev.now _)⟩
  · obtain ⟨b, hb, hev⟩ := fits4_l0 l (by omega) l [] rfl
    exact ⟨b, fun e => ⟨by omega, hb e⟩, Ev.congr (f := fun k => laws_zzFits4.l0 k l (l.length : Int) 0) (fun k => by rw [if_neg h]) hev⟩
theorem boxed_some (r : Int) : ∃ b, spec_TxBoxed.f r = some b ∧ (b = true → 32 ≤ r) := by
  unfold spec_TxBoxed.f
  split
  · exact ⟨_, rfl, fun _ => by omega⟩
  · exact ⟨_, rfl, fun h => by cases h⟩
theorem wide_some (r : Int) : ∃ b, spec_TxWide.f r = some b ∧ (b = true → 32 ≤ r) := by
  unfold spec_TxWide.f
  repeat' split
  all_goals first
    | exact ⟨_, rfl, fun _ => by omega⟩
    | exact ⟨_, rfl, fun h => by cases h⟩
theorem known_some (r : Int) : ∃ b, spec_TxKnown.f r = some b ∧ (b = true → 32 ≤ r) := by
  obtain ⟨b1, h1, g1⟩ := boxed_some r
  obtain ⟨b2, h2, g2⟩ := wide_some r
  unfold spec_TxKnown.f
  rw [h1, h2]
  simp only [Option.bind_some]
  repeat' split
  all_goals first
    | exact ⟨_, rfl, fun _ => by omega⟩
    | (rename_i h; exact ⟨_, rfl, fun _ => g1 h⟩)
    | exact ⟨_, rfl, g2⟩
/-- A text whose characters are all known has no byte 27. -/
theorem simple_l0 (s : ByteArray) (hs : s.size ≤ 4611686018427387904) : ∀ (d pos : Nat), pos ≤ s.size → s.size - pos ≤ d →
    ∃ b, Ev (fun k => spec_TxSimple.l0 k false (pos : Int) s) b ∧ (b = true → ∀ j (hj : j < s.size), pos ≤ j → s[j]'hj ≠ 27) := by
  intro d
  induction d with
  | zero =>
    intro pos h1 h2
    refine ⟨true, Ev.step (f := fun _ => some true) (fun k => ?_) (Ev.now _), fun _ j hj h3 => by omega⟩
    simp only [spec_TxSimple.l0]
    rw [if_neg (by unfold It.itK; omega)]
  | succ d ih =>
    intro pos h1 h2
    by_cases hlt : pos < s.size
    · obtain ⟨t1, t2, t3, t4, t5⟩ := Text.decode_takes s pos hlt
      obtain ⟨bk, hk, gk⟩ := known_some (It.itR s (pos : Int))
      have eR : It.itR s (pos : Int) = ((Go.Utf8.decode s pos).1 : Int) := rfl
      have eP : It.itP s (pos : Int) = ((pos + (Go.Utf8.decode s pos).2 : Nat) : Int) := rfl
      have hk' : It.itK (pos : Int) < (s.size : Int) := by unfold It.itK; omega
      cases bk with
      | false =>
        refine ⟨false, Ev.step (f := fun _ => some false) (fun k => ?_) (Ev.now _), fun h => by cases h⟩
        simp only [spec_TxSimple.l0]
        rw [if_pos hk', hk]
        simp
      | true =>
        obtain ⟨b, hb, hg⟩ := ih (pos + (Go.Utf8.decode s pos).2) t2 (by omega)
        refine ⟨b, Ev.step (f := fun k => spec_TxSimple.l0 k false ((pos + (Go.Utf8.decode s pos).2 : Nat) : Int) s) (fun k => ?_) hb, fun h j hj h3 => ?_⟩
        · simp only [spec_TxSimple.l0]
          rw [if_pos hk', hk, eP]
          simp
        · by_cases hj2 : pos + (Go.Utf8.decode s pos).2 ≤ j
          · exact hg h j hj hj2
          · have hr := gk rfl
            rw [eR] at hr
            by_cases hj3 : j = pos
            · subst hj3
              intro e
              have h27 : (s[j]'hj).toNat = 27 := by rw [e]; rfl
              have := (t4 (by omega)).1
              omega
            · have := t3 j (by omega) (by omega) hj
              intro e
              rw [e] at this
              exact absurd this (by decide)
    · refine ⟨true, Ev.step (f := fun _ => some true) (fun k => ?_) (Ev.now _), fun _ j hj h3 => by omega⟩
      simp only [spec_TxSimple.l0]
      rw [if_neg (by unfold It.itK; omega)]
theorem simple_ev (s : ByteArray) (hs : s.size ≤ 4611686018427387904) : ∃ b, Ev (fun k => spec_TxSimple.f k s false) b ∧ (b = true → ∀ x ∈ s.data.toList, x ≠ 27) := by
  obtain ⟨b, hb, hg⟩ := simple_l0 s hs s.size 0 (by omega) (by omega)
  refine ⟨b, hb, fun h x hx => ?_⟩
  obtain ⟨j, hj, rfl⟩ := List.getElem_of_mem hx
  exact hg h j (by simpa using hj) (by omega)

/-- The texts, one behind the other. -/
def catL (l : List ByteArray) : List UInt8 := (l.map (·.data.toList)).flatten
theorem catL_snoc (p : List ByteArray) (q : ByteArray) : catL (p ++ [q]) = catL p ++ q.data.toList := by simp [catL]

theorem texts_l0 (l : List ByteArray) (hl : l.length ≤ 2147483647) : ∀ (r p : List ByteArray) (acc : ByteArray), l = p ++ r → acc.data.toList = catL p → acc.size ≤ 300 * p.length →
    ∃ b : ByteArray × Bool, Ev (fun k => laws_txTexts.l0 k l acc l (l.length : Int) (p.length : Int)) b ∧
      (b.2 = true → l.length ≤ 20 ∧ b.1.data.toList = catL l ∧ catL l ≠ [] ∧ ∀ x ∈ r, x.size ≤ 300 ∧ ∀ y ∈ x.data.toList, y ≠ 27) := by
  intro r
  induction r with
  | nil =>
    intro p acc hp ha _
    have hpl : p = l := by rw [hp]; simp
    subst hpl
    by_cases h0 : acc.data.toList = []
    · refine ⟨(acc, false), Ev.step (f := fun _ => some (acc, false)) (fun k => ?_) (Ev.now _), fun h => by cases h⟩
      simp only [laws_txTexts.l0]
      rw [if_neg (by omega), toList_data, if_pos h0]
    · refine ⟨(acc, decide ((p.length : Int) ≤ 20)), Ev.step (f := fun _ => some (acc, decide ((p.length : Int) ≤ 20))) (fun k => ?_) (Ev.now _), fun h => ⟨?_, ha, ?_, fun x hx => by cases hx⟩⟩
      · simp only [laws_txTexts.l0]
        rw [if_neg (by omega), toList_data, if_neg h0]
      · have := of_decide_eq_true h
        omega
      · rw [← ha]; exact h0
  | cons q r ih =>
    intro p acc hp ha hsz
    have hlen : l.length = p.length + r.length + 1 := by rw [hp]; simp; omega
    have hrd : rdOf ByteArray.empty l (p.length : Int) = q := by rw [hp]; simp [rdOf, List.getD]
    by_cases hq : (q.size : Int) > 300
    · refine ⟨(⟨#[]⟩, false), Ev.step (f := fun _ => some (⟨#[]⟩, false)) (fun k => ?_) (Ev.now _), fun h => by cases h⟩
      simp only [laws_txTexts.l0]
      rw [if_pos (by omega), if_pos (by omega), if_pos (by omega), hrd, if_pos hq]
    · obtain ⟨b1, hb1, hg1⟩ := simple_ev q (by omega)
      cases b1 with
      | false =>
        refine ⟨(⟨#[]⟩, false), Ev.step (f := fun k => (spec_TxSimple.f k q false).bind fun t112 => (if t112 = true then (if acc.size + q.size ≤ 9223372036854775807 then (laws_txTexts.l0 k l (acc ++ q) l (l.length : Int) (wrap64 ((p.length : Int) + 1))) else (none)) else (some ((⟨#[]⟩ : ByteArray), false)))) (fun k => ?_) (Ev.bind hb1 (Ev.congr (f := fun _ => some _) (fun k => by rw [if_neg (by decide)]) (Ev.now _))), fun h => by cases h⟩
        simp only [laws_txTexts.l0]
        rw [if_pos (by omega), if_pos (by omega), if_pos (by omega), hrd, if_neg hq]
      | true =>
        obtain ⟨b, hb, hg⟩ := ih (p ++ [q]) (acc ++ q) (by rw [hp]; simp) (by rw [data_append, ha, catL_snoc]) (by rw [ByteArray.size_append]; simp; omega)
        refine ⟨b, Ev.step (f := fun k => (spec_TxSimple.f k q false).bind fun t112 => (if t112 = true then (if acc.size + q.size ≤ 9223372036854775807 then (laws_txTexts.l0 k l (acc ++ q) l (l.length : Int) (wrap64 ((p.length : Int) + 1))) else (none)) else (some ((⟨#[]⟩ : ByteArray), false)))) (fun k => ?_) (Ev.bind hb1 (Ev.congr (f := fun k => laws_txTexts.l0 k l (acc ++ q) l (l.length : Int) ((p ++ [q]).length : Int)) (fun k => ?_) hb)), fun h => ?_⟩
        · simp only [laws_txTexts.l0]
          rw [if_pos (by omega), if_pos (by omega), if_pos (by omega), hrd, if_neg hq]
        · rw [if_pos rfl, if_pos (by omega), succ_len (q := q) (by omega)]
        · obtain ⟨g1, g2, g3, g4⟩ := hg h
          refine ⟨g1, g2, g3, fun x hx => ?_⟩
          rcases List.mem_cons.1 hx with rfl | hx
          · exact ⟨by omega, hg1 rfl⟩
          · exact g4 x hx

theorem cat_len : ∀ (l : List ByteArray), (∀ x ∈ l, x.size ≤ 300) → (catL l).length ≤ 300 * l.length
  | [], _ => by simp [catL]
  | x :: l, h => by
    have h1 := cat_len l (fun y hy => h y (by simp [hy]))
    have h2 := h x (by simp)
    rw [size_list] at h2
    have e : catL (x :: l) = x.data.toList ++ catL l := by simp [catL]
    rw [e, List.length_append, List.length_cons]
    omega
theorem join_cat (l : List ByteArray) : Lib.join (l.map (·.data.toList)) [] = catL l := by
  cases l with
  | nil => rfl
  | cons x l =>
    rw [List.map_cons, Lib.join_cons]
    simp [Lib.joinTail, catL]
    rfl

theorem dec_dig : ∀ n : Nat, ∀ x ∈ dec n, x ≠ 27 := by
  intro n
  induction n using Nat.strongRecOn with
  | _ n ih =>
    intro x hx
    by_cases h : n < 10
    · rw [dec_small h] at hx
      simp only [List.mem_singleton] at hx
      subst hx
      intro e
      have := congrArg UInt8.toNat e
      simp at this
      omega
    · rw [dec_step (by omega)] at hx
      rcases List.mem_append.1 hx with hx | hx
      · exact ih (n / 10) (by omega) x hx
      · simp only [List.mem_singleton] at hx
        subst hx
        intro e
        have := congrArg UInt8.toNat e
        simp at this
        omega
theorem dec_pos (n : Nat) : 0 < (dec n).length := by
  by_cases h : n < 10
  · rw [dec_small h]; simp
  · rw [dec_step (by omega)]; simp
theorem seq_list (n : Nat) : (seqOf n).data.toList = 27 :: 91 :: (dec n ++ [109]) := by
  unfold seqOf
  rw [data_append, data_append]
  simp
theorem seq_size (n : Nat) (h : n < 1000) : 4 ≤ (seqOf n).size ∧ (seqOf n).size ≤ 23 := by
  have h1 := dec_len (n := n) (by omega)
  have h2 := dec_pos n
  rw [size_list, seq_list]
  simp
  omega
theorem seq_27 (n j : Nat) (h : (seqOf n).data.toList[j]? = some 27) : j = 0 := by
  rw [seq_list] at h
  match j, h with
  | 0, _ => rfl
  | 1, h => simp at h
  | j + 2, h =>
    simp only [List.getElem?_cons_succ] at h
    have hm := List.mem_of_getElem? h
    rcases List.mem_append.1 hm with hm | hm
    · exact absurd rfl (dec_dig n 27 hm)
    · exact absurd hm (by decide)

theorem print_ev (n : Nat) (hn : n < 1000) (l : List ByteArray) (s : ByteArray) (hl : l.length ≤ 20) (hs : s.data.toList = catL l) (h0 : catL l ≠ []) (hx : ∀ x ∈ l, x.size ≤ 300 ∧ ∀ y ∈ x.data.toList, y ≠ 27) :
    Ev (fun k => impl_TextColorPrint.f k (n : Int) l) ((seqOf n ++ s) ++ RST) := by
  have hc := cat_len l (fun x h => (hx x h).1)
  have hsz : s.size = (catL l).length := by rw [size_list, hs]
  have hpos : 0 < (catL l).length := List.length_pos_iff.2 h0
  have hsq := seq_size n hn
  have hj : strings_Join.f l (⟨#[]⟩ : ByteArray) = some s := by
    unfold strings_Join.f
    have e : Lib.join (l.map (·.data.toList)) ((⟨#[]⟩ : ByteArray).data.toList) = catL l := join_cat l
    rw [e, if_pos ⟨by omega, by omega⟩]
    congr 1
    exact bytes_ext hs.symm
  have he := escape_plain s (seqOf n) (seq_27 n) (by rw [seq_list]; rfl) hsq.1 (by omega) (by omega) (by omega) (by
    intro y hy
    rw [hs] at hy
    obtain ⟨ys, hys, hy2⟩ := List.mem_flatten.1 hy
    obtain ⟨x, hx1, rfl⟩ := List.mem_map.1 hys
    exact (hx x hx1).2 y hy2)
  obtain ⟨K, hK⟩ := he
  refine ⟨K + 2, fun k hk => ?_⟩
  obtain ⟨m, rfl⟩ : ∃ m, k = m + 2 := ⟨k - 2, by omega⟩
  show impl_TextColorPrint.f (m + 2) (n : Int) l = _
  unfold impl_TextColorPrint.f text_Color_Sprint.f text_colorize.f
  rw [hj, Option.bind_some, seq_of n m hn, Option.bind_some, toList_data, if_neg (by rw [seq_list]; simp), show text_Escape.f (m + 2) s (seqOf n) = some ((seqOf n ++ s) ++ RST) from hK (m + 2) (by omega)]
  rfl

/- ∀ (a0 : Int) (l1 : List ByteArray), (Lit.int .i64 a0).wf = true → (l1.length * 16 ≤ 140737488351232 ∧ l1.length ≤ maxLen ∧ ∀ yl1 ∈ l1, yl1.size ≤ 140737488351232) → ∃ k, laws_FnTextColorPrint.f k a0 l1 = some true -/
theorem FnTextColorPrint : laws_FnTextColorPrint.Pure := by
  intro a0 l1 _ _
  suffices H : Ev (fun k => laws_FnTextColorPrint.f k a0 l1) true from H.rounds
  unfold laws_FnTextColorPrint.f
  obtain ⟨b, hb, hf⟩ := fits4_ev l1
  refine Ev.bind hf ?_
  cases b with
  | false => exact Ev.congr (f := fun _ => some true) (fun k => by rw [if_neg (by decide)]) (Ev.now _)
  | true =>
    obtain ⟨hl, _⟩ := hb rfl
    obtain ⟨bt, hbt, hg⟩ := texts_l0 l1 hl l1 [] ⟨#[]⟩ rfl rfl (Nat.le_refl 0)
    simp only [if_true]
    refine Ev.bind (a := bt) hbt ?_
    by_cases h2 : bt.2 = true
    · obtain ⟨g1, g2, g3, g4⟩ := hg h2
      obtain ⟨c, hc⟩ := att_some a0
      simp only [h2, if_true, hc, Option.bind_some]
      cases c with
      | false => exact Ev.congr (f := fun _ => some true) (fun k => by simp) (Ev.now _)
      | true =>
        have ha := att a0 hc
        obtain ⟨n, rfl⟩ : ∃ n : Nat, a0 = (n : Int) := ⟨a0.toNat, by omega⟩
        have hsq := seq_size n (by omega)
        have hcl := cat_len l1 (fun x h => (g4 x h).1)
        have hsz : bt.1.size = (catL l1).length := by rw [size_list, g2]
        simp only [if_true]
        refine Ev.bind (print_ev n (by omega) l1 bt.1 g1 g2 g3 g4) ?_
        refine ⟨2, fun k hk => ?_⟩
        obtain ⟨m, rfl⟩ : ∃ m, k = m + 2 := ⟨k - 2, by omega⟩
        show ((spec_TxSequence.f (m + 2) [(n : Int)]).bind _) = _
        rw [tx_of n m (by omega), Option.bind_some, if_pos (by omega), if_pos (by rw [ByteArray.size_append]; omega)]
        simp
    · exact Ev.congr (f := fun _ => some true) (fun k => by rw [if_neg h2]) (Ev.now _)

end Go.Proofs.YthepbgakfkiliaaRDoor.Pure
