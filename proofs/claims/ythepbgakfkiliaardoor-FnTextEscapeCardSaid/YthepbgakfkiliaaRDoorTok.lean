/- Texts made of escape sequences and of other characters: where a run of sequences is found in the bytes. Plain lists; no program. -/
namespace Go.Proofs.YthepbgakfkiliaaRDoor.Tok
/-- A sequence (its digits), or a text without the byte 27. -/
inductive Tok where
  | E (ds : List UInt8)
  | T (x : List UInt8)
deriving DecidableEq
def bytes : Tok → List UInt8
  | .E ds => 27 :: 91 :: (ds ++ [109])
  | .T x => x
def ren (l : List Tok) : List UInt8 := (l.map bytes).flatten
def Ok : Tok → Prop
  | .E ds => ∀ x ∈ ds, x ≠ 27 ∧ x ≠ 109
  | .T x => x ≠ [] ∧ ∀ y ∈ x, y ≠ 27
def OkE : Tok → Prop
  | .E ds => ∀ x ∈ ds, x ≠ 27 ∧ x ≠ 109
  | .T _ => False
theorem ren_cons (t : Tok) (l : List Tok) : ren (t :: l) = bytes t ++ ren l := rfl
theorem ren_append (a b : List Tok) : ren (a ++ b) = ren a ++ ren b := by simp [ren]

theorem dig_cut : ∀ (ds qs u v : List UInt8), (∀ x ∈ ds, x ≠ 109) → (∀ x ∈ qs, x ≠ 109) → (qs ++ 109 :: v) <+: (ds ++ 109 :: u) → qs = ds ∧ v <+: u
  | [], [], u, v, _, _, h => ⟨rfl, by simpa using h⟩
  | [], q :: qs, u, v, _, hq, h => by
    simp only [List.nil_append, List.cons_append, List.cons_prefix_cons] at h
    exact absurd h.1 (hq q (by simp))
  | d :: ds, [], u, v, hd, _, h => by
    simp only [List.nil_append, List.cons_append, List.cons_prefix_cons] at h
    exact absurd h.1.symm (hd d (by simp))
  | d :: ds, q :: qs, u, v, hd, hq, h => by
    simp only [List.cons_append, List.cons_prefix_cons] at h
    obtain ⟨rfl, h⟩ := h
    obtain ⟨e, h2⟩ := dig_cut ds qs u v (fun x hx => hd x (by simp [hx])) (fun x hx => hq x (by simp [hx])) h
    exact ⟨by rw [e], h2⟩

/-- At a token's edge: the bytes begin with these sequences, so do the tokens. -/
theorem at_edge : ∀ (pats ts : List Tok), (∀ t ∈ pats, OkE t) → (∀ t ∈ ts, Ok t) → ren pats <+: ren ts → ∃ B, ts = pats ++ B
  | [], ts, _, _, _ => ⟨ts, rfl⟩
  | .T x :: _, _, hp, _, _ => (hp (.T x) (by simp)).elim
  | .E q :: pats, [], _, _, h => by
    rw [ren_cons] at h
    simp [ren, bytes] at h
  | .E q :: pats, .T x :: ts, _, ht, h => by
    obtain ⟨hx, hn⟩ := ht (.T x) (by simp)
    cases x with
    | nil => exact absurd rfl hx
    | cons y x =>
      rw [ren_cons, ren_cons] at h
      simp only [bytes, List.cons_append, List.cons_prefix_cons] at h
      exact absurd h.1.symm (hn y (by simp))
  | .E q :: pats, .E d :: ts, hp, ht, h => by
    rw [ren_cons, ren_cons] at h
    simp only [bytes, List.cons_append, List.cons_prefix_cons, true_and, List.append_assoc, List.nil_append] at h
    obtain ⟨rfl, h2⟩ := dig_cut d q _ _ (fun x hx => (ht (.E d) (by simp) x hx).2) (fun x hx => (hp (.E q) (by simp) x hx).2) h
    obtain ⟨B, rfl⟩ := at_edge pats ts (fun t h => hp t (by simp [h])) (fun t h => ht t (by simp [h])) h2
    exact ⟨B, rfl⟩

/-- Wherever the bytes of a run of sequences stand, the run stands among the tokens. -/
theorem found (q : List UInt8) (pats : List Tok) (hp : ∀ t ∈ Tok.E q :: pats, OkE t) : ∀ (ts : List Tok), (∀ t ∈ ts, Ok t) → ∀ p, p ≤ (ren ts).length → ren (.E q :: pats) <+: (ren ts).drop p → ∃ A B, ts = A ++ (.E q :: pats) ++ B ∧ (ren A).length = p
  | [], _, p, _, h => by
    rw [ren_cons] at h
    simp [ren, bytes] at h
  | t :: ts, ht, p, hl, h => by
    by_cases hlt : p < (bytes t).length
    · by_cases h0 : p = 0
      · subst h0
        obtain ⟨B, hB⟩ := at_edge (.E q :: pats) (t :: ts) hp ht (by simpa using h)
        exact ⟨[], B, by simpa using hB, rfl⟩
      · exfalso
        rw [ren_cons, ren_cons, List.drop_append_of_le_length (by omega)] at h
        have hb : ((bytes t).drop p)[0]? = some 27 := by
          obtain ⟨z, hz⟩ := h
          have hd : 0 < ((bytes t).drop p).length := by rw [List.length_drop]; omega
          have := congrArg (·[0]?) hz
          simp only [List.getElem?_append_left hd] at this
          rw [← this]
          rfl
        rw [List.getElem?_drop, Nat.add_zero] at hb
        cases t with
        | T x => exact (ht (.T x) (by simp)).2 27 (List.mem_of_getElem? hb) rfl
        | E d =>
          obtain ⟨p, rfl⟩ : ∃ m, p = m + 1 := ⟨p - 1, by omega⟩
          simp only [bytes, List.getElem?_cons_succ] at hb
          have hm := List.mem_of_getElem? hb
          rcases List.mem_cons.1 hm with hm | hm
          · exact absurd hm (by decide)
          · rcases List.mem_append.1 hm with hm | hm
            · exact (ht (.E d) (by simp) 27 hm).1 rfl
            · exact absurd hm (by decide)
    · rw [ren_cons t ts, List.drop_append, List.drop_eq_nil_of_le (by omega), List.nil_append] at h
      obtain ⟨A, B, rfl, hA⟩ := found q pats hp ts (fun t h => ht t (by simp [h])) (p - (bytes t).length) (by rw [ren_cons, List.length_append] at hl; omega) h
      exact ⟨t :: A, B, rfl, by rw [ren_cons, List.length_append]; omega⟩
end Go.Proofs.YthepbgakfkiliaaRDoor.Tok
