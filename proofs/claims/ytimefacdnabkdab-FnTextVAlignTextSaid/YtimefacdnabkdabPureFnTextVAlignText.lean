/- A text is aligned vertically as its lines are, in as many lines as asked for: at least one line, no more lines than asked for, at most 300, each of at most 300 bytes and of known characters. -/
import Derived.Test.YtimefacdnabkdabPFnTextVAlignTextx3
import Derived.Test.YtimefacdnabkdabBase
import Derived.Test.YtimefacdnabkdabText
namespace Go.Proofs.Ytimefacdnabkdab.Pure
open Go.RowKit Go.Proofs.Ytimefacdnabkdab.PFnTextVAlignText Go.Proofs.YtimefacdnabkdabW.PrintWords Go.Proofs.YtimefacdnabkdabW.PrintLast Go.Proofs.YtimefacdnabkdabW.PrintMore
open Go.Proofs.Ytimefacdnabkdab.Base Go.Proofs.Ytimefacdnabkdab Go.Proofs.Ytimefacdnabkdab.Hand

theorem fits4_l0 (l : List ByteArray) (hl : l.length ≤ 2147483647) : ∀ (r p : List ByteArray), l = p ++ r →
    ∃ b, (b = true → ∀ x ∈ r, x.size ≤ 2147483647) ∧ Ev (fun k => laws_zzFits4.l0 k l (l.length : Int) (p.length : Int)) b := by
  intro r
  induction r with
  | nil =>
    intro p hp
    refine ⟨true, fun _ x hx => by simp at hx, Ev.step (f := fun _ => some true) (fun k => ?_) (Ev.now _)⟩
    simp only [laws_zzFits4.l0]
    rw [if_neg (by rw [hp]; simp)]
  | cons q r ih =>
    intro p hp
    have hlen : l.length = p.length + r.length + 1 := by rw [hp]; simp; omega
    have hrd : rdOf ByteArray.empty l (p.length : Int) = q := by rw [hp]; simp [rdOf, List.getD]
    obtain ⟨b, hb, hev⟩ := ih (p ++ [q]) (by rw [hp]; simp)
    by_cases hq : (q.size : Int) > 2147483647
    · refine ⟨false, (fun h => by cases h), Ev.step (f := fun _ => some false) (fun k => ?_) (Ev.now _)⟩
      simp only [laws_zzFits4.l0]
      rw [if_pos (by omega), if_pos (by omega), if_pos (by omega), hrd, if_pos hq]
    · refine ⟨b, fun h x hx => ?_, Ev.step (f := fun k => laws_zzFits4.l0 k l (l.length : Int) ((p ++ [q]).length : Int)) (fun k => ?_) hev⟩
      · rcases List.mem_cons.1 hx with rfl | hx
        · omega
        · exact hb h x hx
      · simp only [laws_zzFits4.l0]
        rw [if_pos (by omega), if_pos (by omega), if_pos (by omega), hrd, if_neg hq, succ_len (q := q) (by omega)]
theorem fits4_ev (l : List ByteArray) : ∃ b, (b = true → l.length ≤ 2147483647 ∧ ∀ x ∈ l, x.size ≤ 2147483647) ∧ Ev (fun k => laws_zzFits4.f k l) b := by
  unfold laws_zzFits4.f
  by_cases h : (l.length : Int) > 2147483647
  · exact ⟨false, (fun h => by cases h), Ev.congr (f := fun _ => some false) (fun k => by rw [if_pos h]) (Ev.now _)⟩
  · obtain ⟨b, hb, hev⟩ := fits4_l0 l (by omega) l [] rfl
    exact ⟨b, fun e => ⟨by omega, hb e⟩, Ev.congr (f := fun k => laws_zzFits4.l0 k l (l.length : Int) 0) (fun k => by rw [if_neg h]) hev⟩
theorem same_l0 (a : List ByteArray) (ha : a.length ≤ 4611686018427387904) : ∀ (r p : List ByteArray), a = p ++ r → Ev (fun k => spec_TxSameTexts.l0 k a a (a.length : Int) (p.length : Int)) true := by
  intro r
  induction r with
  | nil =>
    intro p hp
    refine Ev.step (f := fun _ => some true) (fun k => ?_) (Ev.now _)
    simp only [spec_TxSameTexts.l0]
    rw [if_neg (by rw [hp]; simp)]
  | cons q r ih =>
    intro p hp
    have hlen : a.length = p.length + r.length + 1 := by rw [hp]; simp; omega
    refine Ev.step (f := fun k => spec_TxSameTexts.l0 k a a (a.length : Int) ((p ++ [q]).length : Int)) (fun k => ?_) (ih (p ++ [q]) (by rw [hp]; simp))
    simp only [spec_TxSameTexts.l0]
    rw [if_pos (by omega), if_pos (by omega), if_pos (by omega), if_pos (by omega), if_pos trivial, succ_len (q := q) (by omega)]
/-- The same texts are told to be the same. -/
theorem same_ev (a : List ByteArray) (ha : a.length ≤ 4611686018427387904) : Ev (fun k => spec_TxSameTexts.f k a a) true := by
  unfold spec_TxSameTexts.f
  exact Ev.congr (f := fun k => spec_TxSameTexts.l0 k a a (a.length : Int) 0) (fun k => by rw [if_pos rfl]) (same_l0 a ha a [] rfl)
theorem idx_ev (s : ByteArray) (hs : s.size ≤ 4611686018427387904) : ∀ (a p : List UInt8), (∀ x ∈ a, x ≠ 10) → ∀ rest : List UInt8, s.data.toList = p ++ a ++ rest → (rest = [] ∨ ∃ b, rest = 10 :: b) →
    Ev (fun k => text_zzIndex.l0 k s ⟨#[10]⟩ (p.length : Int)) (if rest = [] then -1 else ((p.length + a.length : Nat) : Int)) := by
  intro a
  induction a with
  | nil =>
    intro p _ rest h hr
    rcases hr with rfl | ⟨b, rfl⟩
    · have hsz : s.size = p.length := by rw [size_list, h]; simp
      refine Ev.step (f := fun _ => some (-1)) (fun k => ?_) (Ev.now _)
      simp only [text_zzIndex.l0]
      rw [show ((⟨#[10]⟩ : ByteArray).size : Int) = 1 from rfl, wrap64_id (by omega) (by omega), if_neg (by omega)]
    · have hsz : s.size = p.length + 1 + b.length := by rw [size_list, h]; simp; omega
      refine Ev.step (f := fun _ => some (p.length : Int)) (fun k => ?_) (by simpa using Ev.now (p.length : Int))
      simp only [text_zzIndex.l0]
      rw [show ((⟨#[10]⟩ : ByteArray).size : Int) = 1 from rfl, wrap64_id (by omega) (by omega), if_pos (by omega), if_pos (by omega), if_pos (by omega), if_pos]
      rw [toList_data, toList_data, Text.extract_mid s p [10] b (by rw [h]; simp) _ _ (by omega) (by simp only [List.length_cons, List.length_nil]; omega)]
  | cons x a ih =>
    intro p ha rest h hr
    have hx := ha x (by simp)
    have hsz : s.size = p.length + (1 + a.length) + rest.length := by rw [size_list, h]; simp; omega
    have key := ih (p ++ [x]) (fun y hy => ha y (by simp [hy])) rest (by rw [h]; simp) hr
    have e1 : (p ++ [x]).length + a.length = p.length + (x :: a).length := by simp; omega
    rw [e1] at key
    refine Ev.step (f := fun k => text_zzIndex.l0 k s ⟨#[10]⟩ ((p ++ [x]).length : Int)) (fun k => ?_) key
    simp only [text_zzIndex.l0]
    rw [show ((⟨#[10]⟩ : ByteArray).size : Int) = 1 from rfl, wrap64_id (by omega) (by omega), if_pos (by omega), if_pos (by omega), if_pos (by omega), if_neg]
    · congr 1; simp
    · rw [toList_data, toList_data, Text.extract_mid s p [x] (a ++ rest) (by rw [h]; simp) _ _ (by omega) (by simp only [List.length_cons, List.length_nil]; omega)]
      intro e
      apply hx
      simpa using e
theorem split_ev : ∀ (l : List (List UInt8)), l ≠ [] → (∀ y ∈ l, ∀ x ∈ y, x ≠ 10) → ∀ (s : ByteArray) (acc : List ByteArray), s.data.toList = Text.joinL l → s.size ≤ 4611686018427387904 → acc.length + l.length ≤ 1000000000 →
    Ev (fun k => text_zzSplit.l1 k s ⟨#[10]⟩ acc) (acc ++ l.map fun y => (⟨y.toArray⟩ : ByteArray))
  | [], h, _, _, _, _, _, _ => absurd rfl h
  | [y], _, hn, s, acc, hs, hz, hl => by
    simp only [List.length_cons, List.length_nil] at hl
    have hi := idx_ev s hz y [] (hn y (by simp)) [] (by rw [hs]; simp [Text.joinL]) (.inl rfl)
    rw [if_pos rfl] at hi
    refine Ev.step (f := fun k => (text_zzIndex.f k s ⟨#[10]⟩).bind fun t115 => (if t115 < 0 then (if acc.length < 8796093022208 then (some (acc ++ [s])) else (none)) else (if 0 ≤ t115 then (if t115 ≤ (s.size : Int) then (if acc.length < 8796093022208 then (if 0 ≤ (wrap64 (t115 + ((⟨#[10]⟩ : ByteArray).size : Int))) then (if (wrap64 (t115 + ((⟨#[10]⟩ : ByteArray).size : Int))) ≤ (s.size : Int) then (text_zzSplit.l1 k (s.extract ((wrap64 (t115 + ((⟨#[10]⟩ : ByteArray).size : Int))) : Int).toNat s.size) ⟨#[10]⟩ (acc ++ [s.extract 0 (t115 : Int).toNat])) else (none)) else (none)) else (none)) else (none)) else (none)))) (fun k => rfl) ?_
    refine Ev.bind (a := -1) hi (Ev.congr (f := fun _ => some _) (fun k => ?_) (Ev.now _))
    rw [if_pos (by decide), if_pos (by omega)]
    congr 1
    simp only [List.map_cons, List.map_nil]
    congr 2
    exact bytes_ext (by rw [hs]; rfl)
  | y :: z :: r, _, hn, s, acc, hs, hz, hl => by
    simp only [List.length_cons] at hl
    have hs' : s.data.toList = [] ++ y ++ 10 :: Text.joinL (z :: r) := by rw [hs]; rfl
    have hi := idx_ev s hz y [] (hn y (by simp)) (10 :: Text.joinL (z :: r)) hs' (.inr ⟨_, rfl⟩)
    rw [if_neg (by simp)] at hi
    have hsz : s.size = y.length + (1 + (Text.joinL (z :: r)).length) := by rw [size_list, hs']; simp; omega
    have e1 : s.extract 0 y.length = ⟨y.toArray⟩ := bytes_ext (Text.extract_mid s [] y (10 :: Text.joinL (z :: r)) hs' 0 y.length rfl (by simp))
    have e2 : (s.extract (y.length + 1) s.size).data.toList = Text.joinL (z :: r) := Text.extract_mid s (y ++ [10]) (Text.joinL (z :: r)) [] (by rw [hs']; simp) _ _ (by simp) (by rw [hsz]; simp; omega)
    have e3 : (s.extract (y.length + 1) s.size).size ≤ 4611686018427387904 := by rw [size_list, e2]; omega
    have next := split_ev (z :: r) (by simp) (fun y' hy' => hn y' (by simp [hy'])) (s.extract (y.length + 1) s.size) (acc ++ [⟨y.toArray⟩]) e2 e3 (by simp; omega)
    refine Ev.step (f := fun k => (text_zzIndex.f k s ⟨#[10]⟩).bind fun t115 => (if t115 < 0 then (if acc.length < 8796093022208 then (some (acc ++ [s])) else (none)) else (if 0 ≤ t115 then (if t115 ≤ (s.size : Int) then (if acc.length < 8796093022208 then (if 0 ≤ (wrap64 (t115 + ((⟨#[10]⟩ : ByteArray).size : Int))) then (if (wrap64 (t115 + ((⟨#[10]⟩ : ByteArray).size : Int))) ≤ (s.size : Int) then (text_zzSplit.l1 k (s.extract ((wrap64 (t115 + ((⟨#[10]⟩ : ByteArray).size : Int))) : Int).toNat s.size) ⟨#[10]⟩ (acc ++ [s.extract 0 (t115 : Int).toNat])) else (none)) else (none)) else (none)) else (none)) else (none)))) (fun k => rfl) ?_
    refine Ev.bind (a := ((([] : List UInt8).length + y.length : Nat) : Int)) hi (Ev.congr (f := fun k => text_zzSplit.l1 k (s.extract (y.length + 1) s.size) ⟨#[10]⟩ (acc ++ [⟨y.toArray⟩])) (fun k => ?_) (by simpa using next))
    rw [show ((([] : List UInt8).length + y.length : Nat) : Int) = (y.length : Int) by simp, show ((⟨#[10]⟩ : ByteArray).size : Int) = 1 from rfl, wrap64_id (by omega) (by omega), if_neg (by omega), if_pos (by omega), if_pos (by omega), if_pos (by omega), if_pos (by omega), if_pos (by omega),
      show ((y.length : Int) + 1).toNat = y.length + 1 by omega, show ((y.length : Int)).toNat = y.length by omega, e1]
theorem zsplit_ev (l : List (List UInt8)) (h0 : l ≠ []) (hn : ∀ y ∈ l, ∀ x ∈ y, x ≠ 10) (s : ByteArray) (hs : s.data.toList = Text.joinL l) (hz : s.size ≤ 4611686018427387904) (hl : l.length ≤ 1000000000) :
    Ev (fun k => text_zzSplit.f k s ⟨#[10]⟩) (l.map fun y => (⟨y.toArray⟩ : ByteArray)) := by
  have h := split_ev l h0 hn s [] hs hz (by simpa using hl)
  exact Ev.congr (f := fun k => text_zzSplit.l1 k s ⟨#[10]⟩ []) (fun k => by unfold text_zzSplit.f; rw [if_neg (by decide)]) (by simpa using h)
theorem boxed_some (r : Int) : ∃ b, spec_TxBoxed.f r = some b ∧ (b = true → 32 ≤ r) := by
  unfold spec_TxBoxed.f
  split
  · exact ⟨_, rfl, fun _ => by omega⟩
  · exact ⟨_, rfl, fun h => by cases h⟩
theorem wide_some (r : Int) : ∃ b, spec_TxWide.f r = some b ∧ (b = true → 32 ≤ r) := by
  unfold spec_TxWide.f
  repeat' split
  all_goals first
    | exact ⟨_, rfl, fun _ => by omega⟩
    | exact ⟨_, rfl, fun h => by cases h⟩
theorem known_some (r : Int) : ∃ b, spec_TxKnown.f r = some b ∧ (b = true → 32 ≤ r) := by
  obtain ⟨b1, h1, g1⟩ := boxed_some r
  obtain ⟨b2, h2, g2⟩ := wide_some r
  unfold spec_TxKnown.f
  rw [h1, h2]
  simp only [Option.bind_some]
  repeat' split
  all_goals first
    | exact ⟨_, rfl, fun _ => by omega⟩
    | (rename_i h; exact ⟨_, rfl, fun _ => g1 h⟩)
    | exact ⟨_, rfl, g2⟩
/-- A text whose characters are all known has no line feed. -/
theorem simple_l0 (s : ByteArray) (hs : s.size ≤ 4611686018427387904) : ∀ (d pos : Nat), pos ≤ s.size → s.size - pos ≤ d →
    ∃ b, Ev (fun k => spec_TxSimple.l0 k false (pos : Int) s) b ∧ (b = true → ∀ j (hj : j < s.size), pos ≤ j → s[j]'hj ≠ 10) := by
  intro d
  induction d with
  | zero =>
    intro pos h1 h2
    refine ⟨true, Ev.step (f := fun _ => some true) (fun k => ?_) (Ev.now _), fun _ j hj h3 => by omega⟩
    simp only [spec_TxSimple.l0]
    rw [if_neg (by unfold It.itK; omega)]
  | succ d ih =>
    intro pos h1 h2
    by_cases hlt : pos < s.size
    · obtain ⟨t1, t2, t3, t4, t5⟩ := Text.decode_takes s pos hlt
      obtain ⟨bk, hk, gk⟩ := known_some (It.itR s (pos : Int))
      have eR : It.itR s (pos : Int) = ((Go.Utf8.decode s pos).1 : Int) := rfl
      have eP : It.itP s (pos : Int) = ((pos + (Go.Utf8.decode s pos).2 : Nat) : Int) := rfl
      have hk' : It.itK (pos : Int) < (s.size : Int) := by unfold It.itK; omega
      cases bk with
      | false =>
        refine ⟨false, Ev.step (f := fun _ => some false) (fun k => ?_) (Ev.now _), fun h => by cases h⟩
        simp only [spec_TxSimple.l0]
        rw [if_pos hk', hk]
        simp
      | true =>
        obtain ⟨b, hb, hg⟩ := ih (pos + (Go.Utf8.decode s pos).2) t2 (by omega)
        refine ⟨b, Ev.step (f := fun k => spec_TxSimple.l0 k false ((pos + (Go.Utf8.decode s pos).2 : Nat) : Int) s) (fun k => ?_) hb, fun h j hj h3 => ?_⟩
        · simp only [spec_TxSimple.l0]
          rw [if_pos hk', hk, eP]
          simp
        · by_cases hj2 : pos + (Go.Utf8.decode s pos).2 ≤ j
          · exact hg h j hj hj2
          · have hr := gk rfl
            rw [eR] at hr
            by_cases hj3 : j = pos
            · subst hj3
              intro e
              have h10 : (s[j]'hj).toNat = 10 := by rw [e]; rfl
              have := (t4 (by omega)).1
              omega
            · have := t3 j (by omega) (by omega) hj
              intro e
              rw [e] at this
              exact absurd this (by decide)
    · refine ⟨true, Ev.step (f := fun _ => some true) (fun k => ?_) (Ev.now _), fun _ j hj h3 => by omega⟩
      simp only [spec_TxSimple.l0]
      rw [if_neg (by unfold It.itK; omega)]
theorem simple_ev (s : ByteArray) (hs : s.size ≤ 4611686018427387904) : ∃ b, Ev (fun k => spec_TxSimple.f k s false) b ∧ (b = true → ∀ x ∈ s.data.toList, x ≠ 10) := by
  obtain ⟨b, hb, hg⟩ := simple_l0 s hs s.size 0 (by omega) (by omega)
  refine ⟨b, hb, fun h x hx => ?_⟩
  obtain ⟨j, hj, rfl⟩ := List.getElem_of_mem hx
  exact hg h j (by simpa using hj) (by omega)

theorem repeat_lf (m : Nat) : Lib.repeatL [10] m = List.replicate m (10 : UInt8) := by
  induction m with
  | zero => rfl
  | succ m ih =>
    show [10] ++ Lib.repeatL [10] m = _
    rw [ih]; rfl
theorem join_empty (m : Nat) : Text.joinL (List.replicate (m + 1) []) = List.replicate m (10 : UInt8) := by
  induction m with
  | zero => rfl
  | succ m ih =>
    show ([] : List UInt8) ++ 10 :: Text.joinL (List.replicate (m + 1) []) = _
    rw [ih]; rfl
theorem apply_l0 (ins : Nat) (l : List ByteArray) (n : Nat) (hn : n ≤ 300) (h : ins + l.length ≤ n) : ∀ (r p : List ByteArray), l = p ++ r → ∀ x : List ByteArray, x.length = n →
    ∃ y, y.length = n ∧ Ev (fun k => text_VAlign_Apply.l0 k (ins : Int) x l (l.length : Int) (p.length : Int)) y := by
  intro r
  induction r with
  | nil =>
    intro p hp x hx
    refine ⟨x, hx, Ev.step (f := fun _ => some x) (fun k => ?_) (Ev.now _)⟩
    simp only [text_VAlign_Apply.l0]
    rw [if_neg (by rw [hp]; simp)]
  | cons q r ih =>
    intro p hp x hx
    have hlen : l.length = p.length + r.length + 1 := by rw [hp]; simp; omega
    obtain ⟨y, hy, hev⟩ := ih (p ++ [q]) (by rw [hp]; simp) (x.set (p.length + ins) q) (by simpa using hx)
    have hrd : rdOf ByteArray.empty l (p.length : Int) = q := by rw [hp]; simp [rdOf, List.getD]
    refine ⟨y, hy, Ev.step (f := fun k => text_VAlign_Apply.l0 k (ins : Int) (x.set (p.length + ins) q) l (l.length : Int) ((p ++ [q]).length : Int)) (fun k => ?_) hev⟩
    simp only [text_VAlign_Apply.l0]
    rw [if_pos (by omega), if_pos (by omega), if_pos (by omega), wrap64_id (x := (p.length : Int) + (ins : Int)) (by omega) (by omega), if_pos (by omega), if_pos (by omega), hrd, succ_len (q := q) (by omega),
      show ((p.length : Int) + (ins : Int)).toNat = p.length + ins by omega]
theorem apply_j1 (l : List ByteArray) (n ins : Nat) (h0 : 1 ≤ n) (hn : n ≤ 300) (h : ins + l.length ≤ n) : ∃ y, y.length = n ∧ Ev (fun k => text_VAlign_Apply.j1 k l (n : Int) (ins : Int)) y := by
  have hs : (⟨(Lib.repeatL [10] (n - 1)).toArray⟩ : ByteArray).data.toList = Text.joinL (List.replicate n []) := by
    show Lib.repeatL [10] (n - 1) = _
    rw [repeat_lf, ← join_empty, show n - 1 + 1 = n by omega]
  have hsz : (⟨(Lib.repeatL [10] (n - 1)).toArray⟩ : ByteArray).size ≤ 4611686018427387904 := by
    rw [size_list]
    show (Lib.repeatL [10] (n - 1)).length ≤ _
    rw [repeat_lf, List.length_replicate]; omega
  have hsp := zsplit_ev (List.replicate n []) (by intro e; have := congrArg List.length e; simp at this; omega) (fun y hy x hx => by rw [List.eq_of_mem_replicate hy] at hx; simp at hx) _ hs hsz (by simp; omega)
  obtain ⟨y, hy, hev⟩ := apply_l0 ins l n hn h l [] rfl ((List.replicate n []).map fun y => (⟨y.toArray⟩ : ByteArray)) (by simp)
  have hrep : strings_Repeat.f (⟨#[10]⟩ : ByteArray) (wrap64 ((n : Int) - 1)) = some ⟨(Lib.repeatL [10] (n - 1)).toArray⟩ := by
    rw [wrap64_id (by omega) (by omega)]
    unfold strings_Repeat.f
    have e : ((n : Int) - 1).toNat = n - 1 := by omega
    rw [e, if_pos ⟨by omega, by omega, by rw [show (⟨#[10]⟩ : ByteArray).size = 1 from rfl]; omega⟩]
  refine ⟨y, hy, Ev.step (f := fun k => (text_zzSplit.f k (⟨(Lib.repeatL [10] (n - 1)).toArray⟩ : ByteArray) (⟨#[10]⟩ : ByteArray)).bind fun t123 => text_VAlign_Apply.l0 k (ins : Int) t123 l (l.length : Int) 0) (fun k => ?_) (Ev.bind hsp hev)⟩
  simp only [text_VAlign_Apply.j1]
  rw [hrep]
  rfl
theorem apply_ev (a : Int) (l : List ByteArray) (n : Nat) (h0 : 0 < l.length) (h1 : l.length ≤ n) (hn : n ≤ 300) : ∃ y, y.length = n ∧ Ev (fun k => text_VAlign_Apply.f k a l (n : Int)) y := by
  unfold text_VAlign_Apply.f
  by_cases he : (l.length : Int) = (n : Int)
  · exact ⟨l, by omega, Ev.congr (f := fun _ => some l) (fun k => by rw [if_pos he]) (Ev.now _)⟩
  · have hj : ∃ ins : Nat, ins + l.length ≤ n ∧ ∀ k, text_VAlign_Apply.j0 (k + 1) a l (n : Int) = text_VAlign_Apply.j1 k l (n : Int) (ins : Int) := by
      have e1 : wrap64 ((n : Int) - (l.length : Int)) = ((n - l.length : Nat) : Int) := by rw [wrap64_id (by omega) (by omega)]; omega
      have e2 : wrap64 (Int.tdiv ((n - l.length : Nat) : Int) 2) = (((n - l.length) / 2 : Nat) : Int) := by
        rw [show Int.tdiv ((n - l.length : Nat) : Int) 2 = (((n - l.length) / 2 : Nat) : Int) from rfl, wrap64_id (by omega) (by omega)]
      by_cases h2 : a = 2
      · exact ⟨(n - l.length) / 2, by omega, fun k => by simp only [text_VAlign_Apply.j0]; rw [if_neg (by omega), if_pos h2, e1, e2]⟩
      · by_cases h3 : a = 3
        · exact ⟨n - l.length, by omega, fun k => by simp only [text_VAlign_Apply.j0]; rw [if_neg (by omega), if_neg h2, if_pos h3, e1]⟩
        · exact ⟨0, by omega, fun k => by simp only [text_VAlign_Apply.j0]; rw [if_neg (by omega), if_neg h2, if_neg h3]; rfl⟩
    obtain ⟨ins, hins, hk⟩ := hj
    obtain ⟨y, hy, hev⟩ := apply_j1 l n ins (by omega) hn hins
    exact ⟨y, hy, Ev.congr (f := fun k => text_VAlign_Apply.j0 k a l (n : Int)) (fun k => by rw [if_neg he, if_neg (by omega)]) (Ev.step hk hev)⟩

def lns (l : List ByteArray) : List (List UInt8) := l.map fun x => x.data.toList
theorem lns_back (l : List ByteArray) : ((lns l).map fun y => (⟨y.toArray⟩ : ByteArray)) = l := by
  unfold lns
  rw [List.map_map]
  conv => rhs; rw [← List.map_id l]
  apply List.map_congr_left
  intro x _
  exact bytes_ext rfl
theorem join_len (l : List ByteArray) (h : ∀ x ∈ l, x.size ≤ 300) : (Text.joinL (lns l)).length ≤ l.length * 301 := by
  induction l with
  | nil => simp [lns, Text.joinL]
  | cons x l ih =>
    have h1 := ih (fun y hy => h y (by simp [hy]))
    have h2 := h x (by simp)
    have h3 : x.data.toList.length = x.size := by simp
    cases l with
    | nil =>
      show x.data.toList.length ≤ _
      simp only [List.length_cons, List.length_nil]
      omega
    | cons y l =>
      show (x.data.toList ++ 10 :: Text.joinL (lns (y :: l))).length ≤ _
      rw [List.length_append, List.length_cons]
      simp only [List.length_cons] at h1 ⊢
      omega

theorem law_end (a : Int) (l : List ByteArray) (n : Nat) (h0 : 0 < l.length) (h1 : l.length ≤ n) (hn : n ≤ 300) (hx : ∀ x ∈ l, x.size ≤ 300 ∧ ∀ b ∈ x.data.toList, b ≠ 10) (s : ByteArray) (hs : s.data.toList = Text.joinL (lns l)) :
    Ev (fun k => laws_FnTextVAlignText.l0 k a l (n : Int) s l (l.length : Int) (l.length : Int)) true := by
  obtain ⟨y, hy, hap⟩ := apply_ev (wrap64 (Int.tmod a 4)) l n h0 h1 hn
  have hsz : s.size ≤ 4611686018427387904 := by
    have := join_len l (fun x hx' => (hx x hx').1)
    rw [size_list, hs]; omega
  have hsp := zsplit_ev (lns l) (by intro e; have := congrArg List.length e; simp [lns] at this; simp [this] at h0) (by
    intro z hz b hb
    obtain ⟨x, hx1, rfl⟩ := List.mem_map.1 hz
    exact (hx x hx1).2 b hb) s hs hsz (by simp [lns]; omega)
  rw [lns_back] at hsp
  have e1 : Ev (fun k => impl_TextVAlignText.f k (wrap64 (Int.tmod a 4)) s (n : Int)) y := by
    unfold impl_TextVAlignText.f text_VAlign_ApplyStr.f
    exact Ev.bind (Ev.bind hsp (Ev.bind hap (Ev.now _))) (Ev.now _)
  have e2 : Ev (fun k => impl_TextVAlign.f k (wrap64 (Int.tmod a 4)) l (n : Int)) y := by
    unfold impl_TextVAlign.f
    refine Ev.bind (Ev.now _) (Ev.congr (f := fun k => (text_VAlign_Apply.f k (wrap64 (Int.tmod a 4)) l (n : Int)).bind fun t145 => some t145) (fun k => ?_) (Ev.bind hap (Ev.now _)))
    rw [if_pos (by simp; omega)]
    rfl
  refine Ev.step (f := fun k => (impl_TextVAlignText.f k (wrap64 (Int.tmod a 4)) s (n : Int)).bind fun t149 => ((impl_TextVAlign.f k (wrap64 (Int.tmod a 4)) l (n : Int)).bind fun t152 => ((spec_TxSameTexts.f k t149 t152).bind fun t155 => (if t155 = true then (some ((t149.length : Int) == (n : Int))) else (some false))))) (fun k => ?_) ?_
  · simp only [laws_FnTextVAlignText.l0]
    rw [if_neg (by omega)]
  · refine Ev.bind e1 (Ev.bind e2 (Ev.bind (same_ev y (by omega)) (Ev.congr (f := fun _ => some true) (fun k => ?_) (Ev.now _))))
    rw [if_pos rfl]
    congr 1
    rw [beq_iff_eq]; omega

theorem law_l0 (a : Int) (l : List ByteArray) (n : Nat) (h0 : 0 < l.length) (h1 : l.length ≤ n) (hn : n ≤ 300) (hz : ∀ x ∈ l, x.size ≤ 2147483647) : ∀ (r p : List ByteArray), l = p ++ r → (∀ x ∈ p, x.size ≤ 300 ∧ ∀ b ∈ x.data.toList, b ≠ 10) →
    ∀ s : ByteArray, s.data.toList = Text.joinL (lns p) → Ev (fun k => laws_FnTextVAlignText.l0 k a l (n : Int) s l (l.length : Int) (p.length : Int)) true := by
  intro r
  induction r with
  | nil =>
    intro p hp hx s hs
    rw [List.append_nil] at hp
    subst hp
    exact law_end a l n h0 h1 hn hx s hs
  | cons q r ih =>
    intro p hp hx s hs
    have hlen : l.length = p.length + r.length + 1 := by rw [hp]; simp; omega
    have hrd : rdOf ByteArray.empty l (p.length : Int) = q := by rw [hp]; simp [rdOf, List.getD]
    have hps := join_len p (fun x hx' => (hx x hx').1)
    have hss : s.size ≤ 100000 := by rw [size_list, hs]; omega
    have hj2 : ∀ e : Bool, (e = false → q.size ≤ 300 ∧ ∀ b ∈ q.data.toList, b ≠ 10) → Ev (fun k => laws_FnTextVAlignText.j2 k a l (n : Int) s (p.length : Int) q l (l.length : Int) (p.length : Int) e) true := by
      intro e he
      cases e with
      | true =>
        refine Ev.step (f := fun _ => some true) (fun k => ?_) (Ev.now _)
        simp only [laws_FnTextVAlignText.j2]
        rw [if_pos trivial]
      | false =>
        have hq := he rfl
        have hx2 : ∀ x ∈ p ++ [q], x.size ≤ 300 ∧ ∀ b ∈ x.data.toList, b ≠ 10 := by
          intro x hx'
          rcases List.mem_append.1 hx' with h | h
          · exact hx x h
          · rw [List.mem_singleton.1 h]; exact hq
        by_cases hp0 : p = []
        · subst hp0
          have hs0 : s.data.toList = [] := hs
          have next := ih ([] ++ [q]) (by rw [hp]; simp) hx2 (s ++ q) (by rw [data_append, hs0]; rfl)
          refine Ev.step (f := fun k => laws_FnTextVAlignText.l0 k a l (n : Int) (s ++ q) l (l.length : Int) (([] ++ [q]).length : Int)) (fun k => ?_) next
          simp only [laws_FnTextVAlignText.j2]
          rw [if_neg (by simp), if_neg (by simp), if_pos (by omega), succ_len (q := q) (by simp)]
        · have hpl : 0 < p.length := by
            cases p with
            | nil => exact absurd rfl hp0
            | cons y p => simp
          have hlf : (⟨#[10]⟩ : ByteArray).data.toList = [10] := rfl
          have next := ih (p ++ [q]) (by rw [hp]; simp) hx2 ((s ++ ⟨#[10]⟩) ++ q) (by
            rw [data_append, data_append, hs, hlf, show lns (p ++ [q]) = lns p ++ [q.data.toList] by simp [lns], Text.joinL_snoc _ _ (by simpa [lns] using hp0)]
            simp)
          refine Ev.step (f := fun k => laws_FnTextVAlignText.l0 k a l (n : Int) ((s ++ ⟨#[10]⟩) ++ q) l (l.length : Int) ((p ++ [q]).length : Int)) (fun k => ?_) next
          have hs2 : (s ++ (⟨#[10]⟩ : ByteArray)).size = s.size + 1 := by rw [size_list, data_append, List.length_append, ← size_list]; rfl
          simp only [laws_FnTextVAlignText.j2]
          rw [if_neg (by simp), if_pos (by omega), if_pos (by omega), if_pos (by rw [hs2]; omega), succ_len (q := q) (by omega)]
    have hqz := hz q (by rw [hp]; simp)
    by_cases hbig : (q.size : Int) > 300
    · refine Ev.step (f := fun k => laws_FnTextVAlignText.j2 k a l (n : Int) s (p.length : Int) q l (l.length : Int) (p.length : Int) true) (fun k => ?_) (hj2 true (by simp))
      simp only [laws_FnTextVAlignText.l0]
      rw [if_pos (by omega), if_pos (by omega), if_pos (by omega), hrd, if_pos hbig]
    · obtain ⟨b, hb, hg⟩ := simple_ev q (by omega)
      refine Ev.step (f := fun k => (spec_TxSimple.f k q false).bind fun t157 => laws_FnTextVAlignText.j2 k a l (n : Int) s (p.length : Int) q l (l.length : Int) (p.length : Int) (!t157)) (fun k => ?_) (Ev.bind hb (hj2 (!b) (fun h => ⟨by omega, hg (by cases b; cases h; rfl)⟩)))
      simp only [laws_FnTextVAlignText.l0]
      rw [if_pos (by omega), if_pos (by omega), if_pos (by omega), hrd, if_neg hbig]

theorem law_j0 (a : Int) (l : List ByteArray) (n : Int) (e : Bool) (hz : ∀ x ∈ l, x.size ≤ 2147483647) (h : e = false → 0 < l.length ∧ (l.length : Int) ≤ n ∧ n ≤ 300) : Ev (fun k => laws_FnTextVAlignText.j0 k a l n e) true := by
  cases e with
  | true =>
    refine Ev.step (f := fun _ => some true) (fun k => ?_) (Ev.now _)
    simp only [laws_FnTextVAlignText.j0]
    rw [if_pos trivial]
  | false =>
    obtain ⟨h0, h1, h2⟩ := h rfl
    obtain ⟨m, rfl⟩ := Int.eq_ofNat_of_zero_le (show 0 ≤ n by omega)
    refine Ev.step (f := fun k => laws_FnTextVAlignText.l0 k a l (m : Int) ⟨#[]⟩ l (l.length : Int) 0) (fun k => ?_) (law_l0 a l m h0 (by omega) (by omega) hz l [] rfl (by simp) ⟨#[]⟩ rfl)
    simp only [laws_FnTextVAlignText.j0]
    rw [if_neg (by simp)]

theorem FnTextVAlignText : laws_FnTextVAlignText.Pure := by
  intro a l n _ _ _
  obtain ⟨x, hx1, hx⟩ := fits4_ev l
  have : Ev (fun k => laws_FnTextVAlignText.f k a l n) true := by
    unfold laws_FnTextVAlignText.f
    refine Ev.bind hx ?_
    cases x with
    | false => exact Ev.congr (f := fun _ => some true) (fun k => by rw [if_neg (by simp)]) (Ev.now _)
    | true =>
      have hz := (hx1 rfl).2
      by_cases h0 : (l.length : Int) = 0
      · exact Ev.congr (f := fun k => laws_FnTextVAlignText.j0 k a l n true) (fun k => by rw [if_pos rfl, if_pos h0]) (law_j0 a l n true hz (by simp))
      · by_cases h1 : (l.length : Int) > n
        · exact Ev.congr (f := fun k => laws_FnTextVAlignText.j0 k a l n true) (fun k => by rw [if_pos rfl, if_neg h0, if_pos h1]) (law_j0 a l n true hz (by simp))
        · exact Ev.congr (f := fun k => laws_FnTextVAlignText.j0 k a l n (decide (n > 300))) (fun k => by rw [if_pos rfl, if_neg h0, if_neg h1]) (law_j0 a l n _ hz (fun h => ⟨by omega, by omega, by have := of_decide_eq_false h; omega⟩))
  exact this.rounds

end Go.Proofs.Ytimefacdnabkdab.Pure
