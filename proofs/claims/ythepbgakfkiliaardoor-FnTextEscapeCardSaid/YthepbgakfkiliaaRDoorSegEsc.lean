/- What text.Escape answers on a text of segments with and without a color in turn. -/
import Derived.Test.YthepbgakfkiliaaRDoorSegLaw
namespace Go.Proofs.YthepbgakfkiliaaRDoor.Hand
open Go.RowKit Go.Proofs.YthepbgakfkiliaaRDoor.PEscape Go.Proofs.YthepbgakfkiliaaRDoorW.PrintWords
open Go.Proofs.YthepbgakfkiliaaRDoor.Base Go.Proofs.YthepbgakfkiliaaRDoor.Tok
set_option linter.unusedSimpArgs false

def OkD (c : List UInt8) : Prop := (∀ x ∈ c, x ≠ 27 ∧ x ≠ 109) ∧ c ≠ [48]
def OkS (s : Sg) : Prop := (∀ c, s.1 = some c → OkD c) ∧ s.2 ≠ [] ∧ ∀ y ∈ s.2, y ≠ 27
theorem ok48 : ∀ x ∈ ([48] : List UInt8), x ≠ 27 ∧ x ≠ 109 := by decide
theorem toks_ok : ∀ l : List Sg, (∀ s ∈ l, OkS s) → ∀ t ∈ toks l, Ok t
  | [], _, t, ht => by simp [toks] at ht
  | (some c, x) :: r, h, t, ht => by
    have h0 := h (some c, x) (by simp)
    simp only [toks, List.mem_cons] at ht
    rcases ht with rfl | rfl | rfl | ht
    · exact (h0.1 c rfl).1
    · exact h0.2
    · exact ok48
    · exact toks_ok r (fun s hs => h s (by simp [hs])) t ht
  | (none, x) :: r, h, t, ht => by
    have h0 := h (none, x) (by simp)
    simp only [toks, List.mem_cons] at ht
    rcases ht with rfl | ht
    · exact h0.2
    · exact toks_ok r (fun s hs => h s (by simp [hs])) t ht
theorem mid_ok {q : List UInt8} (hq : OkD q) : ∀ l : List Sg, (∀ s ∈ l, OkS s) → ∀ t ∈ midT q l, Ok t
  | [], _, t, ht => by simp [midT] at ht
  | (some c, x) :: r, h, t, ht => by
    have h0 := h (some c, x) (by simp)
    simp only [midT, List.mem_cons] at ht
    rcases ht with rfl | rfl | rfl | rfl | ht
    · exact (h0.1 c rfl).1
    · exact h0.2
    · exact ok48
    · exact hq.1
    · exact mid_ok hq r (fun s hs => h s (by simp [hs])) t ht
  | (none, x) :: r, h, t, ht => by
    have h0 := h (none, x) (by simp)
    simp only [midT, List.mem_cons] at ht
    rcases ht with rfl | ht
    · exact h0.2
    · exact mid_ok hq r (fun s hs => h s (by simp [hs])) t ht
theorem head_ok {q : List UInt8} (hq : OkD q) (l : List Sg) : ∀ t ∈ headT q l, Ok t := by
  intro t ht
  match l, ht with
  | (none, _) :: _, ht =>
    simp [headT] at ht
    subst ht
    exact hq.1
  | (some _, _) :: _, ht => simp [headT] at ht
  | [], ht => simp [headT] at ht
theorem toks_len : ∀ l : List Sg, (toks l).length ≤ 3 * l.length
  | [] => by simp [toks]
  | (some c, x) :: r => by have := toks_len r; simp [toks]; omega
  | (none, x) :: r => by have := toks_len r; simp [toks]; omega
theorem mid_len (q : List UInt8) : ∀ l : List Sg, (midT q l).length ≤ 4 * l.length
  | [] => by simp [midT]
  | (some c, x) :: r => by have := mid_len q r; simp [midT]; omega
  | (none, x) :: r => by have := mid_len q r; simp [midT]; omega
theorem blen_E (c : List UInt8) : (Tok.bytes (.E c)).length = c.length + 3 := by simp [Tok.bytes]
theorem mid_bytes (q : List UInt8) : ∀ l : List Sg, (ren (midT q l)).length ≤ (ren (toks l)).length + l.length * (q.length + 3)
  | [] => by simp [midT, toks]
  | (some c, x) :: r => by
    have := mid_bytes q r
    have e : (r.length + 1) * (q.length + 3) = r.length * (q.length + 3) + (q.length + 3) := by rw [Nat.add_mul, Nat.one_mul]
    simp only [midT, toks, ren_cons, List.length_append, List.length_cons, blen_E]
    omega
  | (none, x) :: r => by
    have := mid_bytes q r
    have e : (r.length + 1) * (q.length + 3) = r.length * (q.length + 3) + (q.length + 3) := by rw [Nat.add_mul, Nat.one_mul]
    simp only [midT, toks, ren_cons, List.length_append, List.length_cons]
    omega

theorem replace_ev (q : List UInt8) (P : List Tok) (hp : ∀ t ∈ Tok.E q :: P, OkE t) (old new : ByteArray) (hold : old.data.toList = ren (.E q :: P)) (ho : old.size ≤ 1000000) {ts : List Tok} {out : List UInt8} (h : Rep (.E q :: P) new.data.toList ts out)
    (hok : ∀ t ∈ ts, Ok t) (s : ByteArray) (hs : s.data.toList = ren ts) (hb : s.size + ts.length * new.size ≤ 1000000000000) : Ev (fun k => text_zzReplaceAll.f k s old new) ⟨out.toArray⟩ := by
  have h1 := rep_ev q P hp old new hold ho h hok s [] hs (by simpa using hb)
  rw [strOf_bytesOf] at h1
  have hopos : 0 < old.size := by
    rw [size_list, hold, ren_cons, List.length_append, blen_E]
    omega
  exact Ev.congr (f := fun k => text_zzReplaceAll.l1 k s old new []) (fun k => by unfold text_zzReplaceAll.f; rw [if_neg (by omega)]) h1

theorem prefix_of (s : ByteArray) (l : List Sg) (h0 : l ≠ []) (hl : ∀ x ∈ l, OkS x) (hs : s.data.toList = ren (toks l)) : ∃ p, strings_HasPrefix.f s ESB = some p ∧ ∀ (q : List UInt8) (a : ByteArray), a.data.toList = Tok.bytes (.E q) → escHead p a = ren (headT q l) := by
  unfold strings_HasPrefix.f stringslite_HasPrefix.f
  have e2 : (ESB.size : Int) = 2 := rfl
  have hls := size_list s
  rw [e2]
  match l, h0 with
  | (some c, x) :: r, _ =>
    have hs' : s.data.toList = [] ++ [27, 91] ++ (c ++ [109] ++ (x ++ ren (.E [48] :: toks r))) := by rw [hs]; simp [toks, ren_cons, Tok.bytes]
    have hz : 2 ≤ s.size := by rw [hls, hs']; simp
    refine ⟨true, ?_, fun q a ha => by simp [escHead, headT, ren]⟩
    rw [if_pos (by omega), if_pos (by omega), if_pos (by omega)]
    simp only [Option.bind_some, Option.some.injEq]
    rw [toList_data, toList_data, beq_iff_eq]
    exact Text.extract_mid s [] [27, 91] _ hs' _ _ rfl rfl
  | (none, x) :: r, _ =>
    refine ⟨false, ?_, fun q a ha => by simp [escHead, headT, ren_cons, ren_nil, ha]⟩
    by_cases h2 : (s.size : Int) ≥ 2
    · rw [if_pos h2, if_pos (by omega), if_pos (by omega)]
      simp only [Option.bind_some, Option.some.injEq]
      rw [toList_data, toList_data, beq_eq_false_iff_ne]
      intro e
      have h1 := part_at e (by omega) 0 (by omega)
      have h3 := (hl (none, x) (by simp)).2
      obtain ⟨y, x', rfl⟩ : ∃ y x', x = y :: x' := by
        cases x with
        | nil => exact absurd rfl h3.1
        | cons y x' => exact ⟨y, x', rfl⟩
      rw [hs] at h1
      simp [toks, ren_cons, Tok.bytes] at h1
      exact h3.2 y (by simp) h1.symm
    · rw [if_neg h2]; rfl

theorem suffix_no (s : ByteArray) (ts : List Tok) (hs : s.data.toList = ren ts) (hsz : s.size ≤ 1000000000) (hok : ∀ t ∈ ts, Ok t) (hl : ∀ A, ts ≠ A ++ [Tok.E [48]]) : strings_HasSuffix.f s RST = some false := by
  unfold strings_HasSuffix.f stringslite_HasSuffix.f
  rw [show (RST.size : Int) = 4 from rfl]
  by_cases h4 : (s.size : Int) ≥ 4
  · rw [if_pos h4, wrap64_id (by omega) (by omega), if_pos (by omega), if_pos (by omega)]
    simp only [Option.bind_some, Option.some.injEq]
    rw [toList_data, toList_data, beq_eq_false_iff_ne]
    intro e
    have e4 : ((s.size : Int) - 4).toNat = s.size - 4 := by omega
    rw [e4] at e
    have e5 : (s.extract (s.size - 4) (s.size - 4 + RST.size)).data.toList = RST.data.toList := by
      rw [show s.size - 4 + RST.size = s.size by rw [rst_size]; omega]
      exact e
    have h1 := hit_prefix e5
    have hr : RST.data.toList = ren [.E [48]] := rfl
    rw [hr, hs] at h1
    obtain ⟨A, B, e6, e7⟩ := found [48] [] (by intro t ht; simp at ht; subst ht; exact ok48) ts hok (s.size - 4) (by rw [← hs, ← size_list]; omega) h1
    have hB : (ren B).length = 0 := by
      have := congrArg (fun z => (ren z).length) e6
      simp only [ren_append, List.length_append] at this
      rw [e7, ← hs, ← size_list] at this
      have h8 : (ren [Tok.E [48]]).length = 4 := rfl
      omega
    cases B with
    | nil => exact hl A (by simpa using e6)
    | cons b B =>
      rw [ren_cons, List.length_append] at hB
      have hb := hok b (by rw [e6]; simp)
      cases b with
      | E d => rw [blen_E] at hB; omega
      | T x =>
        have h9 : x.length ≠ 0 := fun e => hb.1 (List.length_eq_zero_iff.1 e)
        have h10 : (Tok.bytes (.T x)).length = x.length := rfl
        omega
  · rw [if_neg h4]; rfl

/-- What is encoded. -/
theorem escape_segs (s qa : ByteArray) (q : List UInt8) (hq : OkD q) (hqa : qa.data.toList = Tok.bytes (.E q)) (hql : q.length ≤ 20) (l : List Sg) (h0 : l ≠ []) (hl : ∀ x ∈ l, OkS x) (ht : Turn l) (hn : l.length ≤ 100) (hs : s.data.toList = ren (toks l)) (hsz : s.size ≤ 1000000) :
    Ev (fun k => text_Escape.f k s qa) ⟨(ren (escT q l)).toArray⟩ := by
  have hqs : qa.size = q.length + 3 := by rw [size_list, hqa, blen_E]
  obtain ⟨p, hp, hph⟩ := prefix_of s l h0 hl hs
  have hph := hph q qa hqa
  have hr0 : RST.data.toList = ren [.E [48]] := rfl
  have hnew : (RST ++ qa).data.toList = ren [.E [48], .E q] := by rw [data_append, hqa]; simp [ren_cons, ren_nil, Tok.bytes]
  have hnewz : (RST ++ qa).size = q.length + 7 := by rw [ByteArray.size_append, rst_size, hqs]; omega
  have hfirst : Rep [.E [48]] (RST ++ qa).data.toList (toks l) (ren (midT q l)) := by
    rw [hnew]
    exact first_rep q l (fun x hx e => ((hl x hx).1 [48] e).2 rfl)
  have hmul : (toks l).length * (q.length + 7) ≤ 300 * 27 := Nat.mul_le_mul (by have := toks_len l; omega) (by omega)
  have h1 := replace_ev [48] [] (by intro t ht; simp at ht; subst ht; exact ok48) RST (RST ++ qa) hr0 (by rw [rst_size]; omega) hfirst (toks_ok l hl) s hs (by rw [hnewz]; omega)
  have hmb := mid_bytes q l
  have hmul2 : l.length * (q.length + 3) ≤ 100 * 23 := Nat.mul_le_mul hn (by omega)
  have hsl : (ren (toks l)).length = s.size := by rw [← hs, ← size_list]
  have htz : (⟨(ren (midT q l)).toArray⟩ : ByteArray).size = (ren (midT q l)).length := by rw [size_list]
  have hok : ∀ t ∈ headT q l ++ midT q l, Ok t := by
    intro t ht
    rcases List.mem_append.1 ht with h | h
    · exact head_ok hq l t h
    · exact mid_ok hq l hl t h
  have hbd : (escBody p qa ⟨(ren (midT q l)).toArray⟩).data.toList = ren (headT q l ++ midT q l) := by
    rw [ren_append, ← hph]; rfl
  have hhl : (headT q l).length ≤ 1 ∧ (ren (headT q l)).length ≤ q.length + 3 := by
    match l with
    | (none, _) :: _ => simp [headT, ren_cons, ren_nil, blen_E]
    | (some _, _) :: _ => simp [headT, ren_nil]
    | [] => simp [headT, ren_nil]
  have hbz : (escBody p qa ⟨(ren (midT q l)).toArray⟩).size ≤ 1000000000 := by
    rw [size_list, hbd, ren_append, List.length_append]
    omega
  have hml : ∀ A, headT q l ++ midT q l ≠ A ++ [Tok.E [48]] := by
    intro A e
    have hne : midT q l ≠ [] := by
      match l, h0 with
      | (some _, _) :: _, _ => simp [midT]
      | (none, _) :: _, _ => simp [midT]
    obtain ⟨B, hB⟩ := last_of hne e
    exact mid_last q hq.2 l B h0 hB
  have hx := suffix_no _ _ hbd hbz hok hml
  have htd : (escTail false p qa ⟨(ren (midT q l)).toArray⟩).data.toList = ren (headT q l ++ midT q l ++ [.E [48]]) := by
    rw [ren_append, ren_append, ← hph]
    rfl
  have htl : (escTail false p qa ⟨(ren (midT q l)).toArray⟩).size ≤ 10000000 := by
    rw [size_list, htd, ren_append, ren_append, List.length_append, List.length_append]
    have : (ren [Tok.E [48]]).length = 4 := rfl
    omega
  have hok2 : ∀ t ∈ headT q l ++ midT q l ++ [.E [48]], Ok t := by
    intro t ht
    rcases List.mem_append.1 ht with h | h
    · exact hok t h
    · simp at h; subst h; exact ok48
  have hold2 : (qa ++ RST).data.toList = ren [.E q, .E [48]] := by rw [data_append, hqa]; simp [ren_cons, ren_nil, Tok.bytes]
  have hpp : ∀ t ∈ [Tok.E q, .E [48]], OkE t := by
    intro t ht
    simp at ht
    rcases ht with rfl | rfl
    · exact hq.1
    · exact ok48
  have hoz : (qa ++ RST).size ≤ 1000000 := by rw [ByteArray.size_append, rst_size, hqs]; omega
  have hfull := full_rep q hq.2 l h0 ht
  have hemp : (⟨#[]⟩ : ByteArray).size = 0 := rfl
  have hres := replace_ev q [.E [48]] hpp (qa ++ RST) ⟨#[]⟩ hold2 hoz (show Rep [.E q, .E [48]] (⟨#[]⟩ : ByteArray).data.toList _ _ from hfull) hok2 (escTail false p qa ⟨(ren (midT q l)).toArray⟩) htd (by rw [hemp]; omega)
  rcases contains_ev q [.E [48]] hpp (escTail false p qa ⟨(ren (midT q l)).toArray⟩) (qa ++ RST) hold2 (by omega) hoz htd hok2 hfull with ⟨hc, he⟩ | hc
  · obtain ⟨K1, h1⟩ := h1
    obtain ⟨K2, h2⟩ := hc
    refine ⟨K1 + K2, fun k hk => ?_⟩
    show text_Escape.f k s qa = _
    unfold text_Escape.f
    rw [if_pos ⟨by omega, by omega⟩, hp, Option.bind_some, show text_zzReplaceAll.f k s RST (RST ++ qa) = some _ from h1 k (by omega), Option.bind_some, if_pos (by rw [htz]; omega), hx, Option.bind_some, show text_zzContains.f k _ (qa ++ RST) = some false from h2 k (by omega), Option.bind_some, if_neg (by decide), he, ← htd]
  · obtain ⟨K1, h1⟩ := h1
    obtain ⟨K2, h2⟩ := hc
    obtain ⟨K3, h3⟩ := hres
    refine ⟨K1 + K2 + K3, fun k hk => ?_⟩
    show text_Escape.f k s qa = _
    unfold text_Escape.f
    rw [if_pos ⟨by omega, by omega⟩, hp, Option.bind_some, show text_zzReplaceAll.f k s RST (RST ++ qa) = some _ from h1 k (by omega), Option.bind_some, if_pos (by rw [htz]; omega), hx, Option.bind_some, show text_zzContains.f k _ (qa ++ RST) = some true from h2 k (by omega), Option.bind_some, if_pos rfl]
    exact h3 k (by omega)
end Go.Proofs.YthepbgakfkiliaaRDoor.Hand
