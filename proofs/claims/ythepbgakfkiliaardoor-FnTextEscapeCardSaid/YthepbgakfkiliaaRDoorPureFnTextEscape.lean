/- A text whose parts have a color and none in turn is encoded with a sequence: the parts without a color get it, the others keep theirs, and all is off at the end: what text.Escape writes is what the specification says. -/
import Derived.Test.YthepbgakfkiliaaRDoorPFnTextEscapex5
import Derived.Test.YthepbgakfkiliaaRDoorBase
import Derived.Test.YthepbgakfkiliaaRDoorSegEsc
namespace Go.Proofs.YthepbgakfkiliaaRDoor.Pure
open Go.RowKit Go.Proofs.YthepbgakfkiliaaRDoor.PFnTextEscape Go.Proofs.YthepbgakfkiliaaRDoorW.PrintWords Go.Proofs.YthepbgakfkiliaaRDoorW.PrintLast Go.Proofs.YthepbgakfkiliaaRDoorW.PrintMore
open Go.Proofs.YthepbgakfkiliaaRDoor.Base Go.Proofs.YthepbgakfkiliaaRDoor.Hand Go.Proofs.YthepbgakfkiliaaRDoor.Tok
open Go.Proofs.YthepbgakfkiliaaRDoor.PEscape
set_option linter.unusedSimpArgs false
set_option linter.unusedVariables false


theorem dig_mem : ∀ n : Nat, ∀ x ∈ Lib.decDigits n, 48 ≤ x.toNat ∧ x.toNat ≤ 57 := by
  intro n
  induction n using Nat.strongRecOn with
  | _ n ih =>
    intro x hx
    rw [Lib.decDigits] at hx
    by_cases h : n < 10
    · rw [dif_pos h] at hx
      simp only [List.mem_singleton] at hx
      subst hx
      simp
      omega
    · rw [dif_neg h] at hx
      rcases List.mem_append.1 hx with hx | hx
      · exact ih (n / 10) (by omega) x hx
      · simp only [List.mem_singleton] at hx
        subst hx
        simp
        omega
theorem dig_pos (n : Nat) : 0 < (Lib.decDigits n).length := by
  rw [Lib.decDigits]
  by_cases h : n < 10
  · rw [dif_pos h]; simp
  · rw [dif_neg h]; simp
theorem dig_len {n : Nat} (h : n < 1000) : (Lib.decDigits n).length ≤ 3 := by
  have step : ∀ m : Nat, m < 10 → (Lib.decDigits m).length = 1 := fun m hm => by rw [Lib.decDigits, dif_pos hm]; simp
  by_cases h1 : n < 10
  · rw [step n h1]; omega
  · rw [Lib.decDigits, dif_neg h1, List.length_append]
    by_cases h2 : n / 10 < 10
    · rw [step _ h2]; simp
    · rw [Lib.decDigits, dif_neg h2, List.length_append, step _ (by omega)]; simp
theorem dig_ok {n : Nat} (h1 : 1 ≤ n) : OkD (Lib.decDigits n) := by
  refine ⟨fun x hx => ?_, fun e => ?_⟩
  · have := dig_mem n x hx
    refine ⟨fun e => ?_, fun e => ?_⟩ <;> (subst e; simp at this)
  · by_cases h : n < 10
    · rw [Lib.decDigits, dif_pos h] at e
      simp only [List.cons.injEq, and_true] at e
      have := congrArg UInt8.toNat e
      simp at this
      omega
    · rw [Lib.decDigits, dif_neg h] at e
      have h3 := congrArg List.length e
      have h4 := dig_pos (n / 10)
      simp at h3
      rw [h3] at h4
      simp at h4
theorem itoa_std (n : Nat) (h : n < 9223372036854775808) : strconv_Itoa.f (n : Int) = some ⟨(Lib.decDigits n).toArray⟩ := by
  unfold strconv_Itoa.f
  rw [if_pos (by omega), Lib.itoa, if_neg (by omega)]
  simp
/-- The text of a code. -/
def seqOf (n : Nat) : ByteArray := ((⟨#[27, 91]⟩ : ByteArray) ++ ⟨(Lib.decDigits n).toArray⟩) ++ (⟨#[109]⟩ : ByteArray)
theorem seq_list (n : Nat) : (seqOf n).data.toList = Tok.bytes (.E (Lib.decDigits n)) := by
  unfold seqOf
  rw [data_append, data_append]
  simp [Tok.bytes]
theorem seq_size (n : Nat) (h : n < 1000) : (seqOf n).size ≤ 6 := by
  have := dig_len h
  rw [size_list, seq_list, blen_E]
  omega
theorem tx_of (n k : Nat) (h : n < 1000) : spec_TxSequence.f (k + 3) [(n : Int)] = some (seqOf n) := by
  have h1 := dig_len h
  have h2 : (⟨(Lib.decDigits n).toArray⟩ : ByteArray).size = (Lib.decDigits n).length := by rw [size_list]
  unfold spec_TxSequence.f
  rw [if_neg (by simp)]
  have hr : rd [(n : Int)] 0 = (n : Int) := rfl
  have hz : (⟨#[27, 91]⟩ : ByteArray).size = 2 := rfl
  have hw : wrap64 ((0 : Int) + 1) = 1 := by unfold wrap64; omega
  rw [show k + 3 = (k + 2) + 1 from rfl, spec_TxSequence.l0, List.length_singleton, hr]
  rw [if_pos (by decide), if_pos (by decide), if_pos (by decide), if_neg (by decide)]
  rw [show k + 2 = (k + 1) + 1 from rfl, spec_TxSequence.j1, itoa_std n (by omega)]
  simp only [Option.bind_some]
  rw [if_pos (by omega), hw, spec_TxSequence.l0, if_neg (by decide), if_pos (by rw [ByteArray.size_append]; omega)]
  rfl
theorem tx_ev (n : Nat) (h : n < 1000) : Ev (fun k => spec_TxSequence.f k [(n : Int)]) (seqOf n) := ⟨3, fun k hk => by
  obtain ⟨m, rfl⟩ : ∃ m, k = m + 3 := ⟨k - 3, by omega⟩
  exact tx_of n m h⟩
theorem att (a : Int) (h : spec_TxAttribute.f a = some true) : 1 ≤ a ∧ a ≤ 107 := by
  unfold spec_TxAttribute.f at h
  by_cases h1 : 1 ≤ a
  · refine ⟨h1, ?_⟩
    by_cases h2 : a ≤ 107
    · exact h2
    · exfalso
      rw [if_pos (by omega), if_neg (by omega), if_pos (by omega), if_neg (by omega), if_pos (by omega), if_neg (by omega), if_pos (by omega), if_neg (by omega), if_pos (by omega)] at h
      simp only [Option.some.injEq, decide_eq_true_eq] at h
      exact h2 h
  · exfalso
    rw [if_neg (by omega), if_neg (by omega), if_neg (by omega), if_neg (by omega), if_neg (by omega)] at h
    cases h
theorem att_some (a : Int) : ∃ b, spec_TxAttribute.f a = some b := by
  unfold spec_TxAttribute.f
  repeat' split
  all_goals exact ⟨_, rfl⟩
theorem boxed_some (r : Int) : ∃ b, spec_TxBoxed.f r = some b ∧ (b = true → 32 ≤ r) := by
  unfold spec_TxBoxed.f
  split
  · exact ⟨_, rfl, fun _ => by omega⟩
  · exact ⟨_, rfl, fun h => by cases h⟩
theorem wide_some (r : Int) : ∃ b, spec_TxWide.f r = some b ∧ (b = true → 32 ≤ r) := by
  unfold spec_TxWide.f
  repeat' split
  all_goals first
    | exact ⟨_, rfl, fun _ => by omega⟩
    | exact ⟨_, rfl, fun h => by cases h⟩
theorem known_some (r : Int) : ∃ b, spec_TxKnown.f r = some b ∧ (b = true → 32 ≤ r) := by
  obtain ⟨b1, h1, g1⟩ := boxed_some r
  obtain ⟨b2, h2, g2⟩ := wide_some r
  unfold spec_TxKnown.f
  rw [h1, h2]
  simp only [Option.bind_some]
  repeat' split
  all_goals first
    | exact ⟨_, rfl, fun _ => by omega⟩
    | (rename_i h; exact ⟨_, rfl, fun _ => g1 h⟩)
    | exact ⟨_, rfl, g2⟩
/-- A text whose characters are all known has no byte 27. -/
theorem simple_l0 (s : ByteArray) (hs : s.size ≤ 4611686018427387904) : ∀ (d pos : Nat), pos ≤ s.size → s.size - pos ≤ d →
    ∃ b, Ev (fun k => spec_TxSimple.l0 k false (pos : Int) s) b ∧ (b = true → ∀ j (hj : j < s.size), pos ≤ j → s[j]'hj ≠ 27) := by
  intro d
  induction d with
  | zero =>
    intro pos h1 h2
    refine ⟨true, Ev.step (f := fun _ => some true) (fun k => ?_) (Ev.now _), fun _ j hj h3 => by omega⟩
    simp only [spec_TxSimple.l0]
    rw [if_neg (by unfold It.itK; omega)]
  | succ d ih =>
    intro pos h1 h2
    by_cases hlt : pos < s.size
    · obtain ⟨t1, t2, t3, t4, t5⟩ := Text.decode_takes s pos hlt
      obtain ⟨bk, hk, gk⟩ := known_some (It.itR s (pos : Int))
      have eR : It.itR s (pos : Int) = ((Go.Utf8.decode s pos).1 : Int) := rfl
      have eP : It.itP s (pos : Int) = ((pos + (Go.Utf8.decode s pos).2 : Nat) : Int) := rfl
      have hk' : It.itK (pos : Int) < (s.size : Int) := by unfold It.itK; omega
      cases bk with
      | false =>
        refine ⟨false, Ev.step (f := fun k => spec_TxSimple.j1 k false true (It.itP s (pos : Int)) s) (fun k => ?_) (Ev.step (f := fun _ => some false) (fun k => by simp only [spec_TxSimple.j1]; simp) (Ev.now _)), fun h => by cases h⟩
        simp only [spec_TxSimple.l0]
        rw [if_pos hk', hk]
        simp
      | true =>
        obtain ⟨b, hb, hg⟩ := ih (pos + (Go.Utf8.decode s pos).2) t2 (by omega)
        refine ⟨b, Ev.step (f := fun k => spec_TxSimple.j1 k false false ((pos + (Go.Utf8.decode s pos).2 : Nat) : Int) s) (fun k => ?_) (Ev.step (f := fun k => spec_TxSimple.l0 k false ((pos + (Go.Utf8.decode s pos).2 : Nat) : Int) s) (fun k => by simp only [spec_TxSimple.j1]; rw [if_neg (by decide)]) hb), fun h j hj h3 => ?_⟩
        · simp only [spec_TxSimple.l0]
          rw [if_pos hk', hk, eP]
          simp
        · by_cases hj2 : pos + (Go.Utf8.decode s pos).2 ≤ j
          · exact hg h j hj hj2
          · have hr := gk rfl
            rw [eR] at hr
            by_cases hj3 : j = pos
            · subst hj3
              intro e
              have h27 : (s[j]'hj).toNat = 27 := by rw [e]; rfl
              have := (t4 (by omega)).1
              omega
            · have := t3 j (by omega) (by omega) hj
              intro e
              rw [e] at this
              exact absurd this (by decide)
    · refine ⟨true, Ev.step (f := fun _ => some true) (fun k => ?_) (Ev.now _), fun _ j hj h3 => by omega⟩
      simp only [spec_TxSimple.l0]
      rw [if_neg (by unfold It.itK; omega)]
theorem simple_ev (s : ByteArray) (hs : s.size ≤ 4611686018427387904) : ∃ b, Ev (fun k => spec_TxSimple.f k s false) b ∧ (b = true → ∀ x ∈ s.data.toList, x ≠ 27) := by
  obtain ⟨b, hb, hg⟩ := simple_l0 s hs s.size 0 (by omega) (by omega)
  refine ⟨b, hb, fun h x hx => ?_⟩
  obtain ⟨j, hj, rfl⟩ := List.getElem_of_mem hx
  exact hg h j (by simpa using hj) (by omega)

/-- A segment as its digits and its bytes. -/
def sg (x : S43) : Sg := (if x.f0 > 0 then some (Lib.decDigits x.f0.toNat) else none, x.f1.data.toList)
def Good (x : S43) : Prop := 0 ≤ x.f0 ∧ x.f0 ≤ 107 ∧ x.f1.size ≤ 300 ∧ x.f1.data.toList ≠ [] ∧ ∀ y ∈ x.f1.data.toList, y ≠ 27
theorem good_ok {x : S43} (h : Good x) : OkS (sg x) := by
  obtain ⟨h1, h2, h3, h4, h5⟩ := h
  refine ⟨fun c hc => ?_, h4, h5⟩
  unfold sg at hc
  by_cases h0 : x.f0 > 0
  · rw [if_pos h0] at hc
    simp only [Option.some.injEq] at hc
    subst hc
    exact dig_ok (by omega)
  · rw [if_neg h0] at hc
    simp at hc

theorem rd_at43 {l p r : List S43} {q : S43} (h : l = p ++ q :: r) : rd_T43 l (p.length : Int) = q := by rw [h]; simp [rd_T43, List.getD]

theorem fits_l0 (l : List S43) (hl : l.length ≤ 2147483647) : ∀ (r p : List S43), l = p ++ r → ∃ b, Ev (fun k => laws_zzFits17.l0 k l (l.length : Int) (p.length : Int)) b := by
  intro r
  induction r with
  | nil =>
    intro p hp
    refine ⟨true, Ev.step (f := fun _ => some true) (fun k => ?_) (Ev.now _)⟩
    simp only [laws_zzFits17.l0]
    rw [if_neg (by rw [hp]; simp)]
  | cons q r ih =>
    intro p hp
    have hlen : l.length = p.length + r.length + 1 := by rw [hp]; simp; omega
    obtain ⟨b, hev⟩ := ih (p ++ [q]) (by rw [hp]; simp)
    by_cases hq : (q.f1.size : Int) > 2147483647
    · refine ⟨false, Ev.step (f := fun _ => some false) (fun k => ?_) (Ev.now _)⟩
      simp only [laws_zzFits17.l0]
      rw [if_pos (by omega), if_pos (by omega), if_pos (by omega), rd_at43 hp, laws_zzFits18.f, if_pos hq]
      rfl
    · refine ⟨b, Ev.step (f := fun k => laws_zzFits17.l0 k l (l.length : Int) ((p ++ [q]).length : Int)) (fun k => ?_) hev⟩
      simp only [laws_zzFits17.l0]
      rw [if_pos (by omega), if_pos (by omega), if_pos (by omega), rd_at43 hp, laws_zzFits18.f, if_neg hq, succ_len (q := q) (by omega)]
      rfl
theorem fits_ev (l : List S43) : ∃ b, (b = true → l.length ≤ 2147483647) ∧ Ev (fun k => laws_zzFits17.f k l) b := by
  unfold laws_zzFits17.f
  by_cases h : (l.length : Int) > 2147483647
  · exact ⟨false, (fun h => by cases h), Ev.congr (f := fun _ => some false) (fun k => by rw [if_pos h]) (Ev.now _)⟩
  · obtain ⟨b, hev⟩ := fits_l0 l (by omega) l [] rfl
    exact ⟨b, (fun _ => by omega), Ev.congr (f := fun k => laws_zzFits17.l0 k l (l.length : Int) 0) (fun k => by rw [if_neg h]) hev⟩

/-- What comes first, of a list that is read from a place on. -/
def Joint (p r : List S43) : Prop := ∀ a b, p.getLast? = some a → r.head? = some b → (decide (b.f0 > 0) == decide (a.f0 > 0)) = false
theorem turns_l0 (l : List S43) (hl : l.length ≤ 2147483647) (hw : ∀ x ∈ l, x.f1.size ≤ 140737488351232) : ∀ (r p : List S43), l = p ++ r →
    ∃ b, Ev (fun k => spec_TxTurns.l0 k l l (l.length : Int) (p.length : Int)) b ∧ (b = true → (l.length ≤ 30 ∧ l ≠ []) ∧ (∀ x ∈ r, Good x) ∧ Joint p r ∧ Turn (r.map sg)) := by
  intro r
  induction r with
  | nil =>
    intro p hp
    have hpl : p = l := by rw [hp]; simp
    subst hpl
    by_cases h0 : (p.length : Int) > 0
    · refine ⟨decide ((p.length : Int) ≤ 30), Ev.step (f := fun _ => some (decide ((p.length : Int) ≤ 30))) (fun k => ?_) (Ev.now _), fun h => ⟨⟨?_, ?_⟩, fun x hx => by simp at hx, fun a b _ hb => by simp at hb, trivial⟩⟩
      · simp only [spec_TxTurns.l0]
        rw [if_neg (by omega), if_pos h0]
      · have := of_decide_eq_true h
        omega
      · intro e; rw [e] at h0; simp at h0
    · refine ⟨false, Ev.step (f := fun _ => some false) (fun k => ?_) (Ev.now _), fun h => by cases h⟩
      simp only [spec_TxTurns.l0]
      rw [if_neg (by omega), if_neg h0]
  | cons q r ih =>
    intro p hp
    have hlen : l.length = p.length + r.length + 1 := by rw [hp]; simp; omega
    have hrd := rd_at43 hp
    have hqz := hw q (by rw [hp]; simp)
    obtain ⟨b, hev, hg⟩ := ih (p ++ [q]) (by rw [hp]; simp)
    -- the way on, and the end
    have stop : Ev (fun k => spec_TxTurns.j1 k l l (l.length : Int) (p.length : Int) true) false := Ev.step (f := fun _ => some false) (fun k => by simp only [spec_TxTurns.j1]; rw [if_pos trivial]) (Ev.now _)
    have goon : Ev (fun k => spec_TxTurns.j1 k l l (l.length : Int) (p.length : Int) false) b := Ev.step (f := fun k => spec_TxTurns.l0 k l l (l.length : Int) ((p ++ [q]).length : Int)) (fun k => by simp only [spec_TxTurns.j1]; rw [if_neg (by decide), succ_len (q := q) (by omega)]) hev
    -- what follows the test of the color
    have rest : (q.f0 = 0 ∨ 1 ≤ q.f0 ∧ q.f0 ≤ 107) → ∃ b, Ev (fun k => if (q.f1).toList = ([] : List UInt8) then (spec_TxTurns.j1 k l l (l.length : Int) (p.length : Int) true) else (if (q.f1.size : Int) > 300 then (spec_TxTurns.j1 k l l (l.length : Int) (p.length : Int) true) else ((spec_TxSimple.f k q.f1 false).bind fun t113 => (if t113 = true then (if (p.length : Int) > 0 then (if 0 ≤ (wrap64 ((p.length : Int) - 1)) then (if (wrap64 ((p.length : Int) - 1)) < (l.length : Int) then (spec_TxTurns.j1 k l l (l.length : Int) (p.length : Int) ((decide (q.f0 > 0)) == (decide (((rd_T43 l (wrap64 ((p.length : Int) - 1))).f0) > 0)))) else (none)) else (none)) else (spec_TxTurns.j1 k l l (l.length : Int) (p.length : Int) false)) else (spec_TxTurns.j1 k l l (l.length : Int) (p.length : Int) true))))) b ∧ (b = true → (l.length ≤ 30 ∧ l ≠ []) ∧ (∀ x ∈ q :: r, Good x) ∧ Joint p (q :: r) ∧ Turn ((q :: r).map sg)) := by
      intro hc
      have join : b = true → Joint p (q :: r) → Good q → (l.length ≤ 30 ∧ l ≠ []) ∧ (∀ x ∈ q :: r, Good x) ∧ Joint p (q :: r) ∧ Turn ((q :: r).map sg) := by
        intro hb hj hq
        obtain ⟨g1, g2, g3, g4⟩ := hg hb
        refine ⟨g1, fun x hx => ?_, hj, ?_⟩
        · rcases List.mem_cons.1 hx with rfl | hx
          · exact hq
          · exact g2 x hx
        · cases r with
          | nil => trivial
          | cons y r =>
            refine ⟨?_, g4⟩
            have h1 := g3 q y (by simp) rfl
            unfold sg
            by_cases hq0 : q.f0 > 0 <;> by_cases hy0 : y.f0 > 0 <;> simp [hq0, hy0] at h1 ⊢
      by_cases h0 : q.f1.toList = []
      · exact ⟨false, Ev.congr (fun k => by rw [if_pos h0]) stop, fun h => by cases h⟩
      · by_cases h3 : (q.f1.size : Int) > 300
        · exact ⟨false, Ev.congr (fun k => by rw [if_neg h0, if_pos h3]) stop, fun h => by cases h⟩
        · obtain ⟨b1, hb1, hg1⟩ := simple_ev q.f1 (by omega)
          cases b1 with
          | false => exact ⟨false, Ev.congr (fun k => by rw [if_neg h0, if_neg h3]) (Ev.bind hb1 (Ev.congr (fun k => by rw [if_neg (by decide)]) stop)), fun h => by cases h⟩
          | true =>
            have hq : Good q := ⟨by omega, by omega, by omega, by rw [← toList_data]; exact h0, hg1 rfl⟩
            rcases List.eq_nil_or_concat p with rfl | ⟨p', z, rfl⟩
            · exact ⟨b, Ev.congr (fun k => by rw [if_neg h0, if_neg h3]) (Ev.bind hb1 (Ev.congr (fun k => by rw [if_pos rfl, if_neg (by simp)]) goon)), fun h => join h (fun a b ha _ => by simp at ha) hq⟩
            · have hz : rd_T43 l (wrap64 (((p'.concat z).length : Int) - 1)) = z := by
                have e : wrap64 (((p'.concat z).length : Int) - 1) = (p'.length : Int) := by
                  rw [List.length_concat] at hlen ⊢
                  rw [wrap64_id (by omega) (by omega)]; omega
                rw [e]
                exact rd_at43 (r := q :: r) (by rw [hp]; simp)
              have hpl : (p'.concat z).length = p'.length + 1 := by simp
              have ew : wrap64 (((p'.concat z).length : Int) - 1) = (p'.length : Int) := by rw [hpl, wrap64_id (by omega) (by omega)]; omega
              by_cases hj : (decide (q.f0 > 0) == decide (z.f0 > 0)) = true
              · refine ⟨false, Ev.congr (fun k => by rw [if_neg h0, if_neg h3]) (Ev.bind hb1 (Ev.congr (fun k => ?_) stop)), fun h => by cases h⟩
                rw [if_pos rfl, if_pos (by omega), if_pos (by omega), if_pos (by omega), hz, hj]
              · rw [Bool.not_eq_true] at hj
                refine ⟨b, Ev.congr (fun k => by rw [if_neg h0, if_neg h3]) (Ev.bind hb1 (Ev.congr (fun k => ?_) goon)), fun h => join h (fun a b ha hb => ?_) hq⟩
                · rw [if_pos rfl, if_pos (by omega), if_pos (by omega), if_pos (by omega), hz, hj]
                · simp at ha hb
                  subst ha hb
                  exact hj
    by_cases hc0 : q.f0 = 0
    · obtain ⟨b2, hb2, hg2⟩ := rest (.inl hc0)
      refine ⟨b2, Ev.step (fun k => ?_) hb2, hg2⟩
      simp only [spec_TxTurns.l0]
      rw [if_pos (by omega), if_pos (by omega), if_pos (by omega), hrd, if_pos hc0]
    · obtain ⟨ba, hba⟩ := att_some q.f0
      cases ba with
      | false =>
        refine ⟨false, Ev.step (fun k => ?_) stop, fun h => by cases h⟩
        simp only [spec_TxTurns.l0]
        rw [if_pos (by omega), if_pos (by omega), if_pos (by omega), hrd, if_neg hc0, hba, Option.bind_some, if_neg (by decide)]
      | true =>
        obtain ⟨b2, hb2, hg2⟩ := rest (.inr (att _ hba))
        refine ⟨b2, Ev.step (fun k => ?_) hb2, hg2⟩
        simp only [spec_TxTurns.l0]
        rw [if_pos (by omega), if_pos (by omega), if_pos (by omega), hrd, if_neg hc0, hba, Option.bind_some, if_pos rfl]

theorem sgs_len (x : S43) (h : Good x) : (ren (toks [sg x])).length ≤ 320 := by
  obtain ⟨h1, h2, h3, h4, h5⟩ := h
  have hz := size_list x.f1
  unfold sg
  by_cases h0 : x.f0 > 0
  · have := dig_len (n := x.f0.toNat) (by omega)
    have e1 : (Tok.bytes (.E [48])).length = 4 := rfl
    have e2 : (Tok.bytes (.T x.f1.data.toList)).length = x.f1.data.toList.length := rfl
    rw [if_pos h0]
    simp only [toks, ren_cons, ren_nil, List.length_append, blen_E, List.length_nil, e1, e2]
    omega
  · have e2 : (Tok.bytes (.T x.f1.data.toList)).length = x.f1.data.toList.length := rfl
    rw [if_neg h0]
    simp only [toks, ren_cons, ren_nil, List.length_append, List.length_nil, e2]
    omega
theorem toks_append : ∀ a b : List Sg, toks (a ++ b) = toks a ++ toks b
  | [], b => rfl
  | (some c, x) :: r, b => by simp [toks, toks_append r b]
  | (none, x) :: r, b => by simp [toks, toks_append r b]
theorem toks_size : ∀ l : List S43, (∀ x ∈ l, Good x) → (ren (toks (l.map sg))).length ≤ 320 * l.length
  | [], _ => by simp [toks, ren_nil]
  | x :: l, h => by
    have h1 := sgs_len x (h x (by simp))
    have h2 := toks_size l (fun y hy => h y (by simp [hy]))
    have e : toks ((x :: l).map sg) = toks [sg x] ++ toks (l.map sg) := by rw [← toks_append]; rfl
    rw [e, ren_append, List.length_append, List.length_cons]
    omega

theorem RST4 : (⟨#[27, 91, 48, 109]⟩ : ByteArray).size = 4 := rfl
/-- A part with a color. -/
theorem part_list (x : S43) (h : x.f0 > 0) : ((seqOf x.f0.toNat ++ x.f1) ++ (⟨#[27, 91, 48, 109]⟩ : ByteArray)).data.toList = ren [.E (Lib.decDigits x.f0.toNat), .T x.f1.data.toList, .E [48]] := by
  rw [data_append, data_append, seq_list]
  simp [ren_cons, ren_nil, Tok.bytes]
theorem sg_some {x : S43} (h : x.f0 > 0) : sg x = (some (Lib.decDigits x.f0.toNat), x.f1.data.toList) := by unfold sg; rw [if_pos h]
theorem sg_none {x : S43} (h : ¬ x.f0 > 0) : sg x = (none, x.f1.data.toList) := by unfold sg; rw [if_neg h]

theorem colored_l0 (l : List S43) (hl : l.length ≤ 30) (hgood : ∀ x ∈ l, Good x) : ∀ (r p : List S43) (acc : ByteArray), l = p ++ r → acc.data.toList = ren (toks (p.map sg)) →
    ∃ s : ByteArray, s.data.toList = ren (toks (l.map sg)) ∧ Ev (fun k => spec_TxColored.l0 k acc l (l.length : Int) (p.length : Int)) s := by
  intro r
  induction r with
  | nil =>
    intro p acc hp ha
    have hpl : p = l := by rw [hp]; simp
    subst hpl
    refine ⟨acc, ha, Ev.step (f := fun _ => some acc) (fun k => ?_) (Ev.now _)⟩
    simp only [spec_TxColored.l0]
    rw [if_neg (by omega)]
  | cons q r ih =>
    intro p acc hp ha
    have hlen : l.length = p.length + r.length + 1 := by rw [hp]; simp; omega
    have hrd := rd_at43 hp
    have hq := hgood q (by rw [hp]; simp)
    have hps := toks_size p (fun x hx => hgood x (by rw [hp]; simp [hx]))
    have haz : acc.size ≤ 10000 := by rw [size_list, ha]; omega
    obtain ⟨g1, g2, g3, g4, g5⟩ := hq
    by_cases h0 : q.f0 > 0
    · have hz := seq_size q.f0.toNat (by omega)
      have htx := tx_ev q.f0.toNat (by omega)
      rw [show ((q.f0.toNat : Nat) : Int) = q.f0 by omega] at htx
      have e4 : ((seqOf q.f0.toNat ++ q.f1) ++ (⟨#[27, 91, 48, 109]⟩ : ByteArray)).size = (seqOf q.f0.toNat).size + q.f1.size + 4 := by rw [ByteArray.size_append, ByteArray.size_append]; rfl
      obtain ⟨s, hs, hev⟩ := ih (p ++ [q]) (acc ++ ((seqOf q.f0.toNat ++ q.f1) ++ (⟨#[27, 91, 48, 109]⟩ : ByteArray))) (by rw [hp]; simp) (by
        rw [data_append, part_list q h0, ha, List.map_append, toks_append, ren_append]
        congr 2
        simp [sg_some h0, toks])
      refine ⟨s, hs, Ev.step (fun k => by simp only [spec_TxColored.l0]; rw [if_pos (by omega), if_pos (by omega), if_pos (by omega), hrd, if_pos h0]) (Ev.bind htx (Ev.congr (fun k => ?_) hev))⟩
      rw [if_pos (by omega), if_pos (by rw [ByteArray.size_append]; omega), if_pos (by rw [e4]; omega), succ_len (q := q) (by omega)]
    · obtain ⟨s, hs, hev⟩ := ih (p ++ [q]) (acc ++ q.f1) (by rw [hp]; simp) (by
        rw [data_append, ha, List.map_append, toks_append, ren_append]
        congr 1
        simp [sg_none h0, toks, ren_cons, ren_nil, Tok.bytes])
      refine ⟨s, hs, Ev.step (fun k => ?_) hev⟩
      simp only [spec_TxColored.l0]
      rw [if_pos (by omega), if_pos (by omega), if_pos (by omega), hrd, if_neg h0, if_pos (by omega), succ_len (q := q) (by omega)]

theorem esc_l0 (l : List S43) (hl : l.length ≤ 30) (hgood : ∀ x ∈ l, Good x) (c : Nat) (hc : c < 1000) : ∀ (r p : List S43) (acc : ByteArray), l = p ++ r → acc.size ≤ 400 * p.length →
    ∃ s : ByteArray, s.data.toList = acc.data.toList ++ ren (escT (Lib.decDigits c) (r.map sg)) ∧ Ev (fun k => spec_TxEscaped.l0 k l (seqOf c) acc l (l.length : Int) (p.length : Int)) s := by
  intro r
  induction r with
  | nil =>
    intro p acc hp ha
    have hpl : p = l := by rw [hp]; simp
    subst hpl
    refine ⟨acc, by simp [escT, ren_nil], Ev.step (f := fun _ => some acc) (fun k => ?_) (Ev.now _)⟩
    simp only [spec_TxEscaped.l0]
    rw [if_neg (by omega)]
  | cons q r ih =>
    intro p acc hp ha
    have hlen : l.length = p.length + r.length + 1 := by rw [hp]; simp; omega
    have hrd := rd_at43 hp
    have hq := hgood q (by rw [hp]; simp)
    obtain ⟨g1, g2, g3, g4, g5⟩ := hq
    have hsz := seq_size c hc
    by_cases h0 : q.f0 > 0
    · have hz := seq_size q.f0.toNat (by omega)
      have htx := tx_ev q.f0.toNat (by omega)
      rw [show ((q.f0.toNat : Nat) : Int) = q.f0 by omega] at htx
      have e4 : ((seqOf q.f0.toNat ++ q.f1) ++ (⟨#[27, 91, 48, 109]⟩ : ByteArray)).size = (seqOf q.f0.toNat).size + q.f1.size + 4 := by rw [ByteArray.size_append, ByteArray.size_append]; rfl
      obtain ⟨s, hs, hev⟩ := ih (p ++ [q]) (acc ++ ((seqOf q.f0.toNat ++ q.f1) ++ (⟨#[27, 91, 48, 109]⟩ : ByteArray))) (by rw [hp]; simp) (by rw [ByteArray.size_append, e4, List.length_append, List.length_singleton]; omega)
      refine ⟨s, ?_, Ev.step (fun k => by simp only [spec_TxEscaped.l0]; rw [if_pos (by omega), if_pos (by omega), if_pos (by omega), hrd, if_pos h0]) (Ev.bind htx (Ev.congr (fun k => ?_) hev))⟩
      · rw [hs, data_append, part_list q h0, List.map_cons, sg_some h0]
        simp [escT, ren_cons, ren_nil]
      · rw [if_pos (by omega), if_pos (by rw [ByteArray.size_append]; omega), if_pos (by rw [e4]; omega), succ_len (q := q) (by omega)]
    · have e3 : (seqOf c ++ q.f1).size = (seqOf c).size + q.f1.size := ByteArray.size_append
      have e5 : (acc ++ (seqOf c ++ q.f1)).size = acc.size + ((seqOf c).size + q.f1.size) := by rw [ByteArray.size_append, e3]
      have ew : wrap64 ((l.length : Int) - 1) = (l.length : Int) - 1 := wrap64_id (by omega) (by omega)
      cases r with
      | nil =>
        obtain ⟨s, hs, hev⟩ := ih (p ++ [q]) ((acc ++ (seqOf c ++ q.f1)) ++ (⟨#[27, 91, 48, 109]⟩ : ByteArray)) (by rw [hp]; simp) (by rw [ByteArray.size_append, e5, RST4, List.length_append, List.length_singleton]; omega)
        refine ⟨s, ?_, Ev.step (fun k => ?_) hev⟩
        · rw [hs, data_append, data_append, data_append, seq_list, List.map_cons, List.map_nil, sg_none h0]
          simp [escT, ren_cons, ren_nil, Tok.bytes]
        · simp only [List.length_nil] at hlen
          simp only [spec_TxEscaped.l0]
          rw [if_pos (by omega), if_pos (by omega), if_pos (by omega), hrd, if_neg h0, if_pos (by omega), if_pos (by rw [e3]; omega), ew, if_pos (by omega), if_pos (by rw [e5]; omega), succ_len (q := q) (by omega)]
      | cons y r =>
        obtain ⟨s, hs, hev⟩ := ih (p ++ [q]) (acc ++ (seqOf c ++ q.f1)) (by rw [hp]; simp) (by rw [e5, List.length_append, List.length_singleton]; omega)
        refine ⟨s, ?_, Ev.step (fun k => ?_) hev⟩
        · rw [hs, data_append, data_append, seq_list, List.map_cons, List.map_cons, sg_none h0]
          simp [escT, ren_cons, ren_nil, Tok.bytes]
        · simp only [List.length_cons] at hlen
          simp only [spec_TxEscaped.l0]
          rw [if_pos (by omega), if_pos (by omega), if_pos (by omega), hrd, if_neg h0, if_pos (by omega), if_pos (by rw [e3]; omega), ew, if_neg (by omega), succ_len (q := q) (by omega)]

/- ∀ (l0 : List (S43)) (a1 : Int), (l0.length * 24 ≤ 140737488351232 ∧ l0.length ≤ maxLen ∧ ∀ yl0 ∈ l0, ((Lit.int .i64 yl0.f0).wf = true ∧ (yl0.f1.size ≤ 140737488351232))) → (Lit.int .i64 a1).wf = true → ∃ k, laws_FnTextEscape.f k l0 a1 = some true -/
theorem FnTextEscape : laws_FnTextEscape.Pure := by
  intro l a1 hw _
  refine Ev.rounds (g := fun k => laws_FnTextEscape.f k l a1) ?_
  unfold laws_FnTextEscape.f
  obtain ⟨b0, hl0, hb0⟩ := fits_ev l
  refine Ev.bind hb0 ?_
  cases b0 with
  | false => exact Ev.congr (f := fun _ => some true) (fun k => by rw [if_neg (by decide)]) (Ev.now _)
  | true =>
    have out : Ev (fun k => laws_FnTextEscape.j0 k l a1 true) true := Ev.step (f := fun _ => some true) (fun k => by simp only [laws_FnTextEscape.j0]; rw [if_pos trivial]) (Ev.now _)
    refine Ev.congr (fun k => by rw [if_pos rfl]) (f := fun k => (spec_TxTurns.f k l).bind fun t134 => (if t134 = true then ((spec_TxAttribute.f a1).bind fun t135 => (laws_FnTextEscape.j0 k l a1 (!t135))) else (laws_FnTextEscape.j0 k l a1 true))) ?_
    obtain ⟨b1, hb1, hg1⟩ := turns_l0 l (hl0 rfl) (fun x hx => (hw.2.2 x hx).2) l [] rfl
    refine Ev.bind (g := fun k => spec_TxTurns.f k l) hb1 ?_
    cases b1 with
    | false => exact Ev.congr (fun k => by rw [if_neg (by decide)]) out
    | true =>
      obtain ⟨⟨hl, hne⟩, hgood, _, hturn⟩ := hg1 rfl
      obtain ⟨ba, hba⟩ := att_some a1
      cases ba with
      | false => exact Ev.congr (fun k => by rw [if_pos rfl, hba]; rfl) out
      | true =>
        have ha := att a1 hba
        have hca : ((a1.toNat : Nat) : Int) = a1 := by omega
        obtain ⟨s, hs, hsev⟩ := colored_l0 l hl hgood l [] ⟨#[]⟩ rfl rfl
        obtain ⟨e, he, heev⟩ := esc_l0 l hl hgood a1.toNat (by omega) l [] ⟨#[]⟩ rfl (by simp [ByteArray.size])
        have hsz : s.size ≤ 1000000 := by
          have := toks_size l hgood
          rw [size_list, hs]
          omega
        have hesc := escape_segs s (seqOf a1.toNat) (Lib.decDigits a1.toNat) (dig_ok (by omega)) (seq_list _) (by have := dig_len (n := a1.toNat) (by omega); omega) (l.map sg) (by simpa using hne) (by
          intro x hx
          obtain ⟨y, hy, rfl⟩ := List.mem_map.1 hx
          exact good_ok (hgood y hy)) hturn (by simpa using (by omega : l.length ≤ 100)) hs hsz
        have hes : (⟨(ren (escT (Lib.decDigits a1.toNat) (l.map sg))).toArray⟩ : ByteArray) = e := bytes_ext (by rw [he]; simp)
        rw [hes] at hesc
        refine Ev.congr (f := fun k => laws_FnTextEscape.j0 k l a1 false) (fun k => by rw [if_pos rfl, hba]; rfl) ?_
        refine Ev.step (f := fun k => (spec_TxSequence.f k (([a1] : List Int))).bind fun t139 => ((spec_TxColored.f k l).bind fun t140 => ((impl_TextEscape.f k t140 t139).bind fun t141 => ((spec_TxEscaped.f k l t139).bind fun t142 => (some (t141.toList == t142.toList)))))) (fun k => by simp only [laws_FnTextEscape.j0]; rw [if_neg (by decide)]) ?_
        have htx := tx_ev a1.toNat (by omega)
        rw [hca] at htx
        refine Ev.bind htx (Ev.bind (a := s) hsev ?_)
        refine Ev.bind (a := e) (Ev.bind hesc (Ev.now _)) (Ev.bind (a := e) heev ?_)
        exact Ev.congr (f := fun _ => some true) (fun k => by simp) (Ev.now _)
end Go.Proofs.YthepbgakfkiliaaRDoor.Pure
