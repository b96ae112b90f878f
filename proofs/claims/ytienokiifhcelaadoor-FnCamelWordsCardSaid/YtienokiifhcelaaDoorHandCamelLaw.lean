/- tw.SplitCamelCase over ASCII text, as lists of bytes: runs of one class, a capital moved to the small letters behind it, blanks and underscores left out. -/
import Derived.Lib.Space
namespace Go.Proofs.YtienokiifhcelaaDoor.Hand
open Go.Lib
set_option linter.unusedVariables false

/-- 1 small, 2 capital, 3 digit, 4 other. -/
def cls (b : UInt8) : Nat := if 97 ≤ b.toNat ∧ b.toNat ≤ 122 then 1 else if 65 ≤ b.toNat ∧ b.toNat ≤ 90 then 2 else if 48 ≤ b.toNat ∧ b.toNat ≤ 57 then 3 else 4
/-- The class of what was read last. -/
def lastC (l : List UInt8) : Nat := match l.getLast? with
  | some c => cls c
  | none => 0
def stepG (gs : List (List UInt8)) (b : UInt8) : List (List UInt8) := match gs.getLast? with
  | some g => if lastC g = cls b then gs.dropLast ++ [g ++ [b]] else gs ++ [[b]]
  | none => [[b]]
def groups (l : List UInt8) : List (List UInt8) := l.foldl stepG []
def upHead : List UInt8 → Bool
  | a :: _ => cls a == 2
  | [] => false
def loHead : List UInt8 → Bool
  | a :: _ => cls a == 1
  | [] => false
def adj : List (List UInt8) → List (List UInt8)
  | g :: h :: r => if upHead g && loHead h then g.dropLast :: adj ((g.getLast?.toList ++ h) :: r) else g :: adj (h :: r)
  | [g] => [g]
  | [] => []
termination_by l => l.length
def keepG (s : List UInt8) : Bool := !s.isEmpty && !(trimSpace s).isEmpty && s != [95]
def camel (l : List UInt8) : List (List UInt8) := (adj (groups l)).filter keepG

theorem groups_snoc (l : List UInt8) (b : UInt8) : groups (l ++ [b]) = stepG (groups l) b := by unfold groups; rw [List.foldl_append]; rfl
theorem stepG_app (A : List (List UInt8)) (g : List UInt8) (B : List (List UInt8)) (b : UInt8) : stepG (A ++ B ++ [g]) b = A ++ stepG (B ++ [g]) b := by
  unfold stepG
  rw [List.getLast?_concat, List.getLast?_concat]
  simp only
  split
  · rw [List.dropLast_concat, List.dropLast_concat, List.append_assoc]
  · simp [List.append_assoc]
theorem stepG_ne (gs : List (List UInt8)) (b : UInt8) : stepG gs b ≠ [] := by
  unfold stepG
  split
  · split <;> simp
  · simp
theorem groups_sep (A : List UInt8) (s : UInt8) (h4 : cls s = 4) (hA : lastC A ≠ 4) : groups (A ++ [s]) = groups A ++ [[s]] := by
  rw [groups_snoc]
  have key : ∀ A : List UInt8, (∃ gs g, groups A = gs ++ [g] ∧ lastC g = lastC A) ∨ (A = [] ∧ groups A = []) := by
    intro A
    rcases List.eq_nil_or_concat A with rfl | ⟨B, b, rfl⟩
    · exact Or.inr ⟨rfl, rfl⟩
    · left
      have e : B.concat b = B ++ [b] := List.concat_eq_append ..
      rw [e, groups_snoc]
      have hl : lastC (B ++ [b]) = cls b := by unfold lastC; rw [List.getLast?_concat]
      rw [hl]
      unfold stepG
      split
      · rename_i g hg
        split
        · exact ⟨_, _, rfl, by unfold lastC; rw [List.getLast?_concat]⟩
        · exact ⟨_, _, rfl, by unfold lastC; rfl⟩
      · exact ⟨[], _, rfl, by unfold lastC; rfl⟩
  rcases key A with ⟨gs, g, e, hl⟩ | ⟨rfl, e⟩
  · rw [e]
    unfold stepG
    rw [List.getLast?_concat]
    simp only
    rw [if_neg (by rw [hl, h4]; exact hA)]
  · rw [e]
    rfl
theorem groups_ne (l : List UInt8) (h : l ≠ []) : ∃ gs g, groups l = gs ++ [g] := by
  rcases List.eq_nil_or_concat (groups l) with e | ⟨gs, g, e⟩
  · rcases List.eq_nil_or_concat l with rfl | ⟨B, b, rfl⟩
    · exact absurd rfl h
    · rw [List.concat_eq_append, groups_snoc] at e
      exact absurd e (stepG_ne _ _)
  · exact ⟨gs, g, by rw [e, List.concat_eq_append]⟩
/-- Behind a sign of its own the runs begin anew. -/
theorem groups_app (X : List (List UInt8)) (s : UInt8) (h4 : cls s = 4) : ∀ (w : List UInt8), (∀ b ∈ w, cls b ≠ 4) → w.foldl stepG (X ++ [[s]]) = X ++ [[s]] ++ groups w := by
  intro w
  have key : ∀ n, ∀ w : List UInt8, w.length = n → (∀ b ∈ w, cls b ≠ 4) → w.foldl stepG (X ++ [[s]]) = X ++ [[s]] ++ groups w := by
    intro n
    induction n with
    | zero =>
      intro w hw _
      rw [List.length_eq_zero_iff.1 hw]
      simp [groups]
    | succ n ih =>
      intro w hw hc
      rcases List.eq_nil_or_concat w with rfl | ⟨B, b, rfl⟩
      · cases hw
      · rw [List.concat_eq_append] at hw hc ⊢
        have hB : B.length = n := by simpa using hw
        rw [List.foldl_append, List.foldl_cons, List.foldl_nil, ih B hB (fun x hx => hc x (List.mem_append_left _ hx)), groups_snoc]
        by_cases hb : B = []
        · subst hb
          show stepG (X ++ [[s]] ++ []) b = X ++ [[s]] ++ [[b]]
          rw [List.append_nil]
          unfold stepG
          rw [List.getLast?_concat]
          simp only
          rw [if_neg (by
            show cls s ≠ cls b
            rw [h4]
            exact fun e => hc b (List.mem_append_right _ (List.mem_singleton.2 rfl)) e.symm)]
        · obtain ⟨gs, g, e⟩ := groups_ne B hb
          rw [e, ← List.append_assoc, stepG_app]
  exact key w.length w rfl
theorem adj_one (g : List UInt8) : adj [g] = [g] := by rw [adj]
theorem adj_app (s : UInt8) (h4 : cls s = 4) (Z : List (List UInt8)) : ∀ (n : Nat) (X : List (List UInt8)), X.length = n → adj (X ++ [s] :: Z) = adj X ++ adj ([s] :: Z) := by
  intro n
  induction n with
  | zero =>
    intro X hX
    rw [List.length_eq_zero_iff.1 hX]
    simp [adj]
  | succ n ih =>
    intro X hX
    match X, hX with
    | [g], _ =>
      show adj (g :: [s] :: Z) = _
      rw [adj, adj_one]
      have : loHead [s] = false := by show (cls s == 1) = false; rw [h4]; rfl
      rw [this, Bool.and_false, if_neg (by decide)]
      rfl
    | g :: h :: r, hX =>
      show adj (g :: h :: (r ++ [s] :: Z)) = _
      rw [adj, adj]
      split
      · have := ih ((g.getLast?.toList ++ h) :: r) (by simpa using hX)
        rw [List.cons_append] at this
        rw [this]
        rfl
      · have := ih (h :: r) (by simpa using hX)
        rw [List.cons_append] at this
        rw [this]
        rfl
theorem adj_sep (s : UInt8) (h4 : cls s = 4) (Z : List (List UInt8)) : adj ([s] :: Z) = [s] :: adj Z := by
  cases Z with
  | nil => rw [adj_one]; simp [adj]
  | cons h r =>
    rw [adj]
    have : upHead [s] = false := by show (cls s == 2) = false; rw [h4]; rfl
    rw [this, Bool.false_and, if_neg (by decide)]
/-- Words with a blank or an underscore between are divided as each by itself. -/
theorem camel_words (A w : List UInt8) (s : UInt8) (hs : s = 32 ∨ s = 95) (hA : lastC A ≠ 4) (hw : ∀ b ∈ w, cls b ≠ 4) : camel (A ++ [s] ++ w) = camel A ++ camel w := by
  have h4 : cls s = 4 := by rcases hs with rfl | rfl <;> decide
  have hk : keepG [s] = false := by rcases hs with rfl | rfl <;> decide
  unfold camel
  have e : groups (A ++ [s] ++ w) = groups A ++ [s] :: groups w := by
    have : groups (A ++ [s] ++ w) = w.foldl stepG (groups (A ++ [s])) := by unfold groups; rw [List.foldl_append]
    rw [this, groups_sep A s h4 hA, groups_app _ s h4 w hw, List.append_assoc]
    rfl
  rw [e, adj_app s h4 _ _ _ rfl, adj_sep s h4, List.filter_append, List.filter_cons, hk, if_neg (by decide)]
theorem adj_flat : ∀ (n : Nat) (X : List (List UInt8)), X.length = n → (adj X).flatten = X.flatten := by
  intro n
  induction n with
  | zero => intro X hX; rw [List.length_eq_zero_iff.1 hX]; simp [adj]
  | succ n ih =>
    intro X hX
    match X, hX with
    | [g], _ => rw [adj_one]
    | g :: h :: r, hX =>
      rw [adj]
      split
      · rename_i hc
        have hg : g ≠ [] := by
          rintro rfl
          simp [upHead] at hc
        have e : g.dropLast ++ g.getLast?.toList = g := by
          rw [List.getLast?_eq_some_getLast hg]
          exact List.dropLast_concat_getLast hg
        have : (g.dropLast :: adj ((g.getLast?.toList ++ h) :: r)).flatten = g.dropLast ++ ((g.getLast?.toList ++ h) ++ r.flatten) := by
          rw [List.flatten_cons, ih _ (by simpa using hX), List.flatten_cons]
        rw [this, ← List.append_assoc, ← List.append_assoc, e, List.append_assoc]
        rfl
      · rw [List.flatten_cons, ih _ (by simpa using hX)]
        rfl
theorem groups_flat (l : List UInt8) : (groups l).flatten = l := by
  have key : ∀ n, ∀ l : List UInt8, l.length = n → (groups l).flatten = l := by
    intro n
    induction n with
    | zero => intro l hl; rw [List.length_eq_zero_iff.1 hl]; rfl
    | succ n ih =>
      intro l hl
      rcases List.eq_nil_or_concat l with rfl | ⟨B, b, rfl⟩
      · cases hl
      · rw [List.concat_eq_append] at hl ⊢
        have hB := ih B (by simpa using hl)
        rw [groups_snoc]
        unfold stepG
        split
        · rename_i g hg
          obtain ⟨ys, hy⟩ := List.getLast?_eq_some_iff.1 hg
          rw [hy] at hB
          split
          · rw [hy, List.dropLast_concat, List.flatten_append]
            rw [List.flatten_append] at hB
            simp only [List.flatten_cons, List.flatten_nil, List.append_nil] at hB ⊢
            rw [← List.append_assoc, hB]
          · rw [hy, List.flatten_append, hB]
            simp
        · rename_i hg
          have : groups B = [] := List.getLast?_eq_none_iff.1 hg
          rw [this] at hB
          rw [← hB]
          rfl
  exact key _ l rfl
theorem trim_alnum (l : List UInt8) (h : ∀ b ∈ l, isSp b = false) : trimSpace l = l := by
  have d : ∀ l : List UInt8, (∀ b ∈ l, isSp b = false) → l.dropWhile isSp = l := by
    intro l h
    cases l with
    | nil => rfl
    | cons b t => rw [List.dropWhile_cons, if_neg (by rw [h b (List.mem_cons_self ..)]; decide)]
  unfold trimSpace
  rw [d l h, d l.reverse (fun b hb => h b (List.mem_reverse.1 hb)), List.reverse_reverse]
theorem cls_sp {b : UInt8} (h : cls b ≠ 4) : isSp b = false ∧ b ≠ 95 := by
  have : ∀ n : Fin 256, cls (UInt8.ofNat n.val) ≠ 4 → isSp (UInt8.ofNat n.val) = false ∧ UInt8.ofNat n.val ≠ 95 := by decide +kernel
  have := this ⟨b.toNat, b.toNat_lt⟩
  simp only [UInt8.ofNat_toNat] at this
  exact this h
theorem keep_alnum (s : List UInt8) (h : ∀ b ∈ s, cls b ≠ 4) : keepG s = !s.isEmpty := by
  unfold keepG
  rw [trim_alnum s (fun b hb => (cls_sp (h b hb)).1)]
  cases s with
  | nil => rfl
  | cons a t =>
    have ha := (cls_sp (h a (List.mem_cons_self ..))).2
    have : ((a :: t) != [95]) = true := by
      rw [bne_iff_ne]
      intro e
      injection e with e1 _
      exact ha e1
    rw [this]
    rfl
theorem filter_len (X : List (List UInt8)) : (X.filter fun s => !s.isEmpty).length ≤ X.flatten.length := by
  induction X with
  | nil => simp
  | cons g r ih =>
    rw [List.filter_cons, List.flatten_cons, List.length_append]
    cases g with
    | nil => simpa using ih
    | cons a t =>
      rw [if_pos (show (!(a :: t).isEmpty) = true from rfl), List.length_cons, List.length_cons]
      omega
theorem camel_alnum (w : List UInt8) (h : ∀ b ∈ w, cls b ≠ 4) : camel w = (adj (groups w)).filter fun s => !s.isEmpty := by
  unfold camel
  refine List.filter_congr (fun s hs => keep_alnum s (fun b hb => h b ?_))
  have : b ∈ (adj (groups w)).flatten := List.mem_flatten.2 ⟨s, hs, hb⟩
  rw [adj_flat _ _ rfl, groups_flat] at this
  exact this
theorem camel_len (w : List UInt8) (h : ∀ b ∈ w, cls b ≠ 4) : (camel w).length ≤ w.length := by
  rw [camel_alnum w h]
  have := filter_len (adj (groups w))
  rw [adj_flat _ _ rfl, groups_flat] at this
  exact this
theorem camel_ne (w : List UInt8) (h : ∀ b ∈ w, cls b ≠ 4) (hw : w ≠ []) : 1 ≤ (camel w).length := by
  rw [camel_alnum w h]
  have hf : (adj (groups w)).flatten = w := by rw [adj_flat _ _ rfl, groups_flat]
  obtain ⟨b, hb⟩ := List.exists_mem_of_ne_nil w hw
  rw [← hf] at hb
  obtain ⟨s, hs, hbs⟩ := List.mem_flatten.1 hb
  refine List.length_pos_iff.2 (List.ne_nil_of_mem (List.mem_filter.2 ⟨hs, ?_⟩))
  cases s with
  | nil => cases hbs
  | cons a t => rfl
end Go.Proofs.YtienokiifhcelaaDoor.Hand
