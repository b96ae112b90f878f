/- tw.Title over plain text, as a list of bytes: what it gives stays as it is under it. -/
import Derived.Lib.Space
import Derived.Lib.Case
namespace Go.Proofs.YtmadlpclnlbpgaaDoor.Hand
open Go.Lib
set_option linter.unusedVariables false

def nos (b : UInt8) : Bool := (decide (48 ≤ b.toNat) && decide (b.toNat ≤ 57)) || b == 32
/-- Is the neighbour at the right (or the end) a digit or a blank? -/
def headOk : List UInt8 → Bool
  | [] => true
  | q :: _ => nos q
def prevOk : Option UInt8 → Bool
  | none => true
  | some q => nos q
/-- One pass over the runes; p is the one before, as it is by then. -/
def passT : Option UInt8 → List UInt8 → List UInt8
  | _, [] => []
  | p, b :: t => let c := if b = 95 then 32 else if b = 46 then (if prevOk p && headOk t then 46 else 32) else b
    c :: passT (some c) t
def trimT (l : List UInt8) : List UInt8 := if trimSpace l = [] ∧ l ≠ [] then [32] else trimSpace l
def titleT (l : List UInt8) : List UInt8 := toUpperA (trimT (passT none l))
/-- No underscore, and dots between digits or blanks alone. -/
def OkT : Option UInt8 → List UInt8 → Prop
  | _, [] => True
  | p, b :: t => b ≠ 95 ∧ (b = 46 → prevOk p = true ∧ headOk t = true) ∧ OkT (some b) t
theorem pass_ok : ∀ (l : List UInt8) (p : Option UInt8), OkT p l → passT p l = l
  | [], _, _ => rfl
  | b :: t, p, h => by
    obtain ⟨h1, h2, h3⟩ := h
    have e : (if b = 95 then (32 : UInt8) else if b = 46 then (if prevOk p && headOk t then 46 else 32) else b) = b := by
      rw [if_neg h1]
      by_cases c : b = 46
      · obtain ⟨x, y⟩ := h2 c
        rw [if_pos c, x, y, c]
        rfl
      · rw [if_neg c]
    show (_ :: passT (some _) t) = _
    rw [e, pass_ok t (some b) h3]
theorem nos_keep {b : UInt8} (h : nos b = true) : b ≠ 95 ∧ b ≠ 46 := by
  constructor <;> (rintro rfl; revert h; decide)
theorem head_pass : ∀ (t : List UInt8) (p : Option UInt8), headOk t = true → headOk (passT p t) = true
  | [], _, _ => rfl
  | q :: t, p, h => by
    obtain ⟨h1, h2⟩ := nos_keep h
    show nos (if q = 95 then (32 : UInt8) else if q = 46 then _ else q) = true
    rw [if_neg h1, if_neg h2]
    exact h
theorem ok_pass : ∀ (l : List UInt8) (p : Option UInt8), OkT p (passT p l)
  | [], _ => trivial
  | b :: t, p => by
    refine ⟨?_, ?_, ok_pass t _⟩
    · show (if b = 95 then (32 : UInt8) else if b = 46 then (if prevOk p && headOk t then 46 else 32) else b) ≠ 95
      split
      · decide
      · rename_i h
        split
        · split <;> decide
        · exact h
    · intro h
      by_cases h1 : b = 95
      · rw [if_pos h1] at h; exact absurd h (by decide)
      rw [if_neg h1] at h
      by_cases h2 : b = 46
      · rw [if_pos h2] at h
        by_cases c : (prevOk p && headOk t) = true
        · rw [Bool.and_eq_true] at c
          exact ⟨c.1, head_pass t _ c.2⟩
        · rw [if_neg c] at h
          exact absurd h (by decide)
      · rw [if_neg h2] at h
        exact absurd h h2
theorem ok_none : ∀ (l : List UInt8) (p : Option UInt8), OkT p l → OkT none l
  | [], _, _ => trivial
  | b :: t, p, h => ⟨h.1, fun e => ⟨rfl, (h.2.1 e).2⟩, h.2.2⟩
theorem ok_tail (b : UInt8) (t : List UInt8) (p : Option UInt8) (h : OkT p (b :: t)) : OkT none t := ok_none _ _ h.2.2
theorem ok_drop (f : UInt8 → Bool) : ∀ (l : List UInt8), OkT none l → OkT none (l.dropWhile f)
  | [], _ => trivial
  | b :: t, h => by
    rw [List.dropWhile_cons]
    split
    · exact ok_drop f t (ok_tail b t none h)
    · exact h
theorem ok_take : ∀ (l : List UInt8) (p : Option UInt8) (n : Nat), OkT p l → OkT p (l.take n)
  | [], _, _, _ => by simp [OkT]
  | b :: t, p, 0, _ => trivial
  | b :: t, p, n + 1, h => by
    refine ⟨h.1, fun e => ⟨(h.2.1 e).1, ?_⟩, ok_take t _ n h.2.2⟩
    have := (h.2.1 e).2
    cases t with
    | nil => rw [List.take_nil]; rfl
    | cons q t => cases n with
      | zero => rfl
      | succ n => exact this
theorem rev_drop (f : UInt8 → Bool) (l : List UInt8) : ∃ n, (l.reverse.dropWhile f).reverse = l.take n := by
  refine ⟨(l.reverse.dropWhile f).length, ?_⟩
  have h : l.reverse = l.reverse.takeWhile f ++ l.reverse.dropWhile f := (List.takeWhile_append_dropWhile).symm
  have h2 : l = (l.reverse.dropWhile f).reverse ++ (l.reverse.takeWhile f).reverse := by
    rw [← List.reverse_append, ← h, List.reverse_reverse]
  generalize (l.reverse.dropWhile f) = a at *
  generalize (l.reverse.takeWhile f) = b at *
  rw [h2, List.take_append_of_le_length (by rw [List.length_reverse]; exact Nat.le_refl _), List.take_of_length_le (by rw [List.length_reverse]; exact Nat.le_refl _)]
theorem ok_trim (l : List UInt8) (h : OkT none l) : OkT none (trimSpace l) := by
  unfold trimSpace
  obtain ⟨n, e⟩ := rev_drop isSp (l.dropWhile isSp)
  rw [e]
  exact ok_take _ _ _ (ok_drop _ _ h)
theorem ok_trimT (l : List UInt8) (h : OkT none l) : OkT none (trimT l) := by
  unfold trimT
  split
  · exact ⟨by decide, fun e => absurd e (by decide), trivial⟩
  · exact ok_trim l h
theorem up_facts (b : UInt8) : nos (upperB b) = nos b ∧ (upperB b = 95 ↔ b = 95) ∧ (upperB b = 46 ↔ b = 46) ∧ isSp (upperB b) = isSp b ∧ upperB (upperB b) = upperB b := by
  revert b
  have key : ∀ n : Fin 256, nos (upperB (UInt8.ofNat n.val)) = nos (UInt8.ofNat n.val) ∧ (upperB (UInt8.ofNat n.val) = 95 ↔ (UInt8.ofNat n.val) = 95) ∧ (upperB (UInt8.ofNat n.val) = 46 ↔ (UInt8.ofNat n.val) = 46) ∧ isSp (upperB (UInt8.ofNat n.val)) = isSp (UInt8.ofNat n.val) ∧ upperB (upperB (UInt8.ofNat n.val)) = upperB (UInt8.ofNat n.val) := by decide +kernel
  intro b
  have := key ⟨b.toNat, b.toNat_lt⟩
  simpa using this
theorem ok_up : ∀ (l : List UInt8) (p : Option UInt8), OkT p l → OkT (p.map upperB) (toUpperA l)
  | [], _, _ => trivial
  | b :: t, p, h => by
    obtain ⟨f1, f2, f3, _, _⟩ := up_facts b
    refine ⟨fun e => h.1 (f2.1 e), fun e => ?_, ok_up t (some b) h.2.2⟩
    obtain ⟨x, y⟩ := h.2.1 (f3.1 e)
    constructor
    · cases p with
      | none => rfl
      | some q => exact ((up_facts q).1).trans x
    · cases t with
      | nil => rfl
      | cons q t => exact ((up_facts q).1).trans y
theorem drop_up (l : List UInt8) : (toUpperA l).dropWhile isSp = toUpperA (l.dropWhile isSp) := by
  induction l with
  | nil => rfl
  | cons b t ih =>
    show (upperB b :: toUpperA t).dropWhile isSp = _
    rw [List.dropWhile_cons, List.dropWhile_cons, (up_facts b).2.2.2.1]
    split
    · exact ih
    · rfl
theorem trim_up (l : List UInt8) : trimSpace (toUpperA l) = toUpperA (trimSpace l) := by
  unfold trimSpace
  rw [drop_up]
  have e : (toUpperA (l.dropWhile isSp)).reverse = toUpperA (l.dropWhile isSp).reverse := by unfold toUpperA; rw [List.map_reverse]
  rw [e, drop_up]
  unfold toUpperA
  rw [List.map_reverse]
theorem drop_idem (f : UInt8 → Bool) : ∀ l : List UInt8, (l.dropWhile f).dropWhile f = l.dropWhile f
  | [] => rfl
  | b :: t => by
    rw [List.dropWhile_cons]
    split
    · exact drop_idem f t
    · rename_i h
      rw [List.dropWhile_cons, if_neg h]
/-- What is left of a list that does not begin with f, cut at its end, does not begin with f. -/
theorem drop_take (f : UInt8 → Bool) (l : List UInt8) (n : Nat) (h : l.dropWhile f = l) : (l.take n).dropWhile f = l.take n := by
  cases l with
  | nil => simp
  | cons b t => cases n with
    | zero => rfl
    | succ n =>
      rw [List.take_succ_cons, List.dropWhile_cons]
      rw [List.dropWhile_cons] at h
      split at h
      · rename_i hb
        have := congrArg List.length h
        have h2 := (List.dropWhile_sublist f (l := t)).length_le
        simp at this
        omega
      · rename_i hb
        rw [if_neg hb]
theorem trim_idem (l : List UInt8) : trimSpace (trimSpace l) = trimSpace l := by
  unfold trimSpace
  obtain ⟨n, e⟩ := rev_drop isSp (l.dropWhile isSp)
  have h1 : ((l.dropWhile isSp).reverse.dropWhile isSp).reverse.dropWhile isSp = ((l.dropWhile isSp).reverse.dropWhile isSp).reverse := by
    rw [e]
    exact drop_take isSp _ n (drop_idem isSp l)
  rw [h1, List.reverse_reverse, drop_idem]
theorem up_idem (l : List UInt8) : toUpperA (toUpperA l) = toUpperA l := by
  unfold toUpperA
  rw [List.map_map]
  exact List.map_congr_left fun b _ => (up_facts b).2.2.2.2
theorem up_nil {l : List UInt8} : toUpperA l = [] ↔ l = [] := by unfold toUpperA; simp
theorem trimT_idem (l : List UInt8) : trimT (trimT l) = trimT l := by
  unfold trimT
  by_cases h : trimSpace l = [] ∧ l ≠ []
  · simp only [if_pos h]
    rfl
  · simp only [if_neg h, trim_idem]
    rw [if_neg (fun c => c.2 c.1)]
theorem trimT_up (l : List UInt8) : trimT (toUpperA l) = toUpperA (trimT l) := by
  unfold trimT
  rw [trim_up]
  by_cases h : trimSpace l = [] ∧ l ≠ []
  · simp only [if_pos h, if_pos (show toUpperA (trimSpace l) = [] ∧ toUpperA l ≠ [] from ⟨up_nil.2 h.1, fun c => h.2 (up_nil.1 c)⟩)]
    rfl
  · simp only [if_neg h, if_neg (show ¬ (toUpperA (trimSpace l) = [] ∧ toUpperA l ≠ []) from fun c => h ⟨up_nil.1 c.1, fun d => c.2 (up_nil.2 d)⟩)]
theorem title_idem (l : List UInt8) : titleT (titleT l) = titleT l := by
  have h := ok_up _ _ (ok_trimT _ (ok_pass l none))
  unfold titleT
  have e : passT none (toUpperA (trimT (passT none l))) = toUpperA (trimT (passT none l)) := pass_ok _ _ h
  rw [e, trimT_up, trimT_idem, up_idem]
theorem title_up (l : List UInt8) : toUpperA (titleT l) = titleT l := up_idem _
theorem pass_len : ∀ (l : List UInt8) (p : Option UInt8), (passT p l).length = l.length
  | [], _ => rfl
  | b :: t, p => by
    show (passT _ t).length + 1 = _
    rw [pass_len t]
    rfl
theorem title_ne (l : List UInt8) (h : l ≠ []) : titleT l ≠ [] := by
  unfold titleT
  intro c
  have c := up_nil.1 c
  unfold trimT at c
  have hp : passT none l ≠ [] := fun e => h (List.length_eq_zero_iff.1 (by rw [← pass_len l none, e]; rfl))
  by_cases d : trimSpace (passT none l) = [] ∧ passT none l ≠ []
  · simp only [if_pos d] at c
    cases c
  · simp only [if_neg d] at c
    exact d ⟨c, hp⟩
end Go.Proofs.YtmadlpclnlbpgaaDoor.Hand
