/- What replacing does to the tokens of a text of segments with and without a color in turn. Plain lists. -/
import Derived.Test.YthepbgakfkiliaaRDoorTokLaw
namespace Go.Proofs.YthepbgakfkiliaaRDoor.Hand
open Go.RowKit Go.Proofs.YthepbgakfkiliaaRDoor.PEscape Go.Proofs.YthepbgakfkiliaaRDoorW.PrintWords
open Go.Proofs.YthepbgakfkiliaaRDoor.Base Go.Proofs.YthepbgakfkiliaaRDoor.Tok
set_option linter.unusedSimpArgs false

theorem ren_nil : ren [] = [] := rfl
theorem last_of {X Y A : List Tok} {t : Tok} (h : Y ≠ []) (e : X ++ Y = A ++ [t]) : ∃ B, Y = B ++ [t] := by
  rcases List.eq_nil_or_concat Y with rfl | ⟨B, z, rfl⟩
  · exact absurd rfl h
  · have e2 := congrArg List.getLast? e
    rw [List.concat_eq_append, ← List.append_assoc] at e2
    simp at e2
    exact ⟨B, by rw [List.concat_eq_append, e2]⟩
theorem Rep.cons {P : List Tok} {new : List UInt8} {t : Tok} {ts : List Tok} {out : List UInt8} (h : ∀ B, t :: ts ≠ P ++ B) (r : Rep P new ts out) : Rep P new (t :: ts) (Tok.bytes t ++ out) := by
  cases r with
  | none hn =>
    refine Rep.none (ts := t :: ts) ?_
    intro A B e
    cases A with
    | nil => exact h B (by simpa using e)
    | cons a A =>
      simp only [List.cons_append, List.cons.injEq] at e
      exact hn A B e.2
  | hit hf r =>
    rename_i A B out
    have := Rep.hit (P := P) (new := new) (A := t :: A) (B := B) (out := out) (fun A' B' e => by
      cases A' with
      | nil => exact absurd (by simpa using e) (h B')
      | cons a A' =>
        simp only [List.cons_append, List.cons.injEq] at e
        obtain ⟨rfl, e⟩ := e
        have := hf A' B' (by simpa using e)
        rw [ren_cons, ren_cons, List.length_append, List.length_append]
        omega) r
    simpa [ren_cons] using this
theorem Rep.head {P : List Tok} {new : List UInt8} {B : List Tok} {out : List UInt8} (r : Rep P new B out) : Rep P new (P ++ B) (new ++ out) := by
  have := Rep.hit (P := P) (new := new) (A := []) (B := B) (out := out) (fun A' B' e => by simp [ren]) r
  simpa [ren] using this
theorem Rep.nil {P : List Tok} {new : List UInt8} (h : P ≠ []) : Rep P new [] [] := by
  have := Rep.none (P := P) (new := new) (ts := []) (fun A B e => h (by
    have := congrArg List.length e
    simp at this
    exact List.length_eq_zero_iff.1 (by omega)))
  simpa [ren] using this

/-- A segment: its color's digits (none: no color), and its text. -/
abbrev Sg := Option (List UInt8) × List UInt8
def toks : List Sg → List Tok
  | [] => []
  | (some c, x) :: r => .E c :: .T x :: .E [48] :: toks r
  | (none, x) :: r => .T x :: toks r
def midT (q : List UInt8) : List Sg → List Tok
  | [] => []
  | (some c, x) :: r => .E c :: .T x :: .E [48] :: .E q :: midT q r
  | (none, x) :: r => .T x :: midT q r
def escT (q : List UInt8) : List Sg → List Tok
  | [] => []
  | (some c, x) :: r => .E c :: .T x :: .E [48] :: escT q r
  | (none, x) :: [] => [.E q, .T x, .E [48]]
  | (none, x) :: y :: r => .E q :: .T x :: escT q (y :: r)
def headT (q : List UInt8) : List Sg → List Tok
  | (none, _) :: _ => [.E q]
  | _ => []
/-- With and without a color in turn. -/
def Turn : List Sg → Prop
  | [] => True
  | [_] => True
  | a :: b :: r => a.1.isSome ≠ b.1.isSome ∧ Turn (b :: r)

theorem first_rep (q : List UInt8) : ∀ l : List Sg, (∀ s ∈ l, s.1 ≠ some [48]) → Rep [.E [48]] (ren [.E [48], .E q]) (toks l) (ren (midT q l))
  | [], _ => Rep.nil (by simp)
  | (some c, x) :: r, h => by
    have h1 := first_rep q r (fun s hs => h s (by simp [hs]))
    have hc : c ≠ [48] := fun e => h (some c, x) (by simp) (by rw [e])
    have := Rep.cons (t := .E c) (by simp [hc]) (Rep.cons (t := .T x) (by simp) (Rep.head h1))
    simpa [toks, midT, ren_cons, ren_nil, List.append_assoc] using this
  | (none, x) :: r, h => by
    have h1 := first_rep q r (fun s hs => h s (by simp [hs]))
    have := Rep.cons (t := .T x) (by simp) h1
    simpa [toks, midT, ren_cons, ren_nil, List.append_assoc] using this

/-- What is left behind the second replacement, of what is behind the head. -/
def tailT (q : List UInt8) : List Sg → List Tok
  | [] => [.E [48]]
  | (some c, x) :: [] => [.E c, .T x, .E [48]]
  | (some c, x) :: y :: r => .E c :: .T x :: .E [48] :: .E q :: tailT q (y :: r)
  | (none, x) :: r => .T x :: tailT q r

theorem second_rep (q : List UInt8) (hq : q ≠ [48]) : ∀ l : List Sg, Turn l → Rep [.E q, .E [48]] [] (midT q l ++ [.E [48]]) (ren (tailT q l))
  | [], _ => by
    have := Rep.cons (P := [.E q, .E [48]]) (new := []) (t := .E [48]) (ts := []) (by simp) (Rep.nil (by simp))
    simpa [midT, tailT, ren_cons, ren_nil] using this
  | [(some c, x)], _ => by
    have h1 : Rep [.E q, .E [48]] [] ([.E q, .E [48]] ++ []) ([] ++ []) := Rep.head (Rep.nil (by simp))
    have := Rep.cons (t := .E c) (by simp) (Rep.cons (t := .T x) (by simp) (Rep.cons (t := .E [48]) (by simp [Ne.symm hq]) h1))
    simpa [midT, tailT, ren_cons, ren_nil, List.append_assoc] using this
  | (some c, x) :: (some d, y) :: r, h => absurd rfl h.1
  | (some c, x) :: (none, y) :: r, h => by
    have h1 := second_rep q hq ((none, y) :: r) h.2
    have h2 := Rep.cons (t := .E c) (by simp) (Rep.cons (t := .T x) (by simp) (Rep.cons (t := .E [48]) (by simp [Ne.symm hq]) (Rep.cons (t := .E q) (by simp [midT]) h1)))
    simpa [midT, tailT, ren_cons, List.append_assoc] using h2
  | (none, x) :: r, h => by
    have h1 := second_rep q hq r (by cases r with
      | nil => trivial
      | cons y r => exact h.2)
    have h2 := Rep.cons (t := .T x) (by simp) h1
    simpa [midT, tailT, ren_cons, List.append_assoc] using h2

theorem tail_esc (q : List UInt8) : ∀ l : List Sg, l ≠ [] → Turn l → headT q l ++ tailT q l = escT q l
  | [], h, _ => absurd rfl h
  | [(some c, x)], _, _ => rfl
  | [(none, x)], _, _ => rfl
  | (some c, x) :: (some d, y) :: r, _, h => absurd rfl h.1
  | (none, x) :: (none, y) :: r, _, h => absurd rfl h.1
  | (some c, x) :: (none, y) :: r, _, h => by
    have := tail_esc q ((none, y) :: r) (by simp) h.2
    simp only [headT, tailT, escT, List.nil_append, List.cons_append] at this ⊢
    rw [← this]
  | (none, x) :: (some d, y) :: r, _, h => by
    have := tail_esc q ((some d, y) :: r) (by simp) h.2
    simp only [headT, escT, List.nil_append, List.cons_append] at this ⊢
    rw [← this]
    rfl

theorem full_rep (q : List UInt8) (hq : q ≠ [48]) (l : List Sg) (h0 : l ≠ []) (h : Turn l) : Rep [.E q, .E [48]] [] (headT q l ++ midT q l ++ [.E [48]]) (ren (escT q l)) := by
  have h1 := second_rep q hq l h
  rw [← tail_esc q l h0 h]
  match l, h0 with
  | (some c, x) :: r, _ => simpa [headT] using h1
  | (none, x) :: r, _ =>
    have := Rep.cons (t := .E q) (by simp [midT]) h1
    simpa [headT, ren_cons] using this

/-- The last token of what is encoded is not 'all off'. -/
theorem mid_last (q : List UInt8) (hq : q ≠ [48]) : ∀ (l : List Sg) A, l ≠ [] → midT q l ≠ A ++ [Tok.E [48]]
  | [], _, h, _ => absurd rfl h
  | [(some c, x)], A, _, e => by
    have := congrArg List.getLast? e
    simp [midT] at this
    exact hq this
  | [(none, x)], A, _, e => by
    have := congrArg List.getLast? e
    simp [midT] at this
  | (some c, x) :: y :: r, A, _, e => by
    have e2 : midT q ((some c, x) :: y :: r) = [.E c, .T x, .E [48], .E q] ++ midT q (y :: r) := rfl
    rw [e2] at e
    have hne : midT q (y :: r) ≠ [] := by
      obtain ⟨c1, x1⟩ := y
      cases c1 <;> simp [midT]
    obtain ⟨B, hB⟩ := last_of hne e
    exact mid_last q hq (y :: r) B (by simp) hB
  | (none, x) :: y :: r, A, _, e => by
    have e2 : midT q ((none, x) :: y :: r) = [.T x] ++ midT q (y :: r) := rfl
    rw [e2] at e
    have hne : midT q (y :: r) ≠ [] := by
      obtain ⟨c1, x1⟩ := y
      cases c1 <;> simp [midT]
    obtain ⟨B, hB⟩ := last_of hne e
    exact mid_last q hq (y :: r) B (by simp) hB

/-- Not in the tokens, or found: what zzContains says. -/
theorem contains_ev (q : List UInt8) (P : List Tok) (hp : ∀ t ∈ Tok.E q :: P, OkE t) (s old : ByteArray) (hold : old.data.toList = ren (.E q :: P)) (hs : s.size ≤ 1000000000) (ho : old.size ≤ 1000000) {ts : List Tok} {new out : List UInt8} (hts : s.data.toList = ren ts) (hok : ∀ t ∈ ts, Ok t) (h : Rep (.E q :: P) new ts out) :
    (Ev (fun k => text_zzContains.f k s old) false ∧ out = ren ts) ∨ Ev (fun k => text_zzContains.f k s old) true := by
  have hosz : old.size = (ren (.E q :: P)).length := by rw [size_list, hold]
  cases h with
  | none hn =>
    refine .inl ⟨contains_none s old (by omega) (by omega) ?_, rfl⟩
    intro i hi e
    have h1 := hit_prefix e
    rw [hold, hts] at h1
    obtain ⟨A, B, e2, _⟩ := found q P hp ts hok i (by rw [← hts, ← size_list]; omega) h1
    exact hn A B e2
  | hit hf r =>
    rename_i A B out
    have hs' : s.data.toList = ren A ++ ren (.E q :: P) ++ ren B := by rw [hts, ren_append, ren_append]
    have hsz : s.size = (ren A).length + old.size + (ren B).length := by rw [size_list, hs', hosz]; simp; omega
    have hi := index_at s old (by omega) (by omega) (ren A).length (by omega) (by rw [hold, hs', List.append_assoc, List.drop_left]; exact List.prefix_append _ _) (by
      intro i hi e
      rw [hold, hts] at e
      obtain ⟨A', B', e2, e3⟩ := found q P hp _ hok i (by rw [← hts, ← size_list]; omega) e
      have := hf A' B' e2
      omega)
    refine .inr ?_
    unfold text_zzContains.f
    exact Ev.bind (a := ((ren A).length : Int)) hi (Ev.congr (f := fun _ => some true) (fun k => by simp) (Ev.now _))
end Go.Proofs.YthepbgakfkiliaaRDoor.Hand
