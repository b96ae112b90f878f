/- Items that a call lays one behind the other. -/
import Derived.Test.YthepbgakfkiliaaRHandListA
namespace Go.Proofs.YthepbgakfkiliaaR.Hand
open Go.RowKit Go.Proofs.YthepbgakfkiliaaRW.PrintWords Go.Proofs.YthepbgakfkiliaaR.Base
set_option linter.unusedVariables false
set_option linter.unusedSimpArgs false

def ptr (p : Nat) : Value := .pointer (some ⟨p, 0, none⟩)
/-- A slice of the call's own, of pointers to items of the call's own. -/
def ItemsOwn (w : World) (base : Nat) (v : Value) (xs : List (Int × ByteArray)) : Prop :=
  ∃ ps : List Nat, ps.length = xs.length ∧ w.ownsRow base 85 1 v xs.length (ps.map ptr) ∧ ∀ (i p : Nat) x, ps[i]? = some p → xs[i]? = some x → base ≤ p ∧ w.heap[p]? = some (.cells #[.int .i64 x.1, .string x.2] 84 (0, 0))

theorem ItemsOwn.nil (w : World) (base : Nat) : ItemsOwn w base (.slice none 0 0) [] := ⟨[], rfl, World.ownsRow_nil _ _ _ _, fun i p x h => by simp at h⟩
theorem ItemsOwn.toIn {w : World} {base B : Nat} {v : Value} {xs : List (Int × ByteArray)} (h : ItemsOwn w base v xs) (hB : w.heap.size ≤ B) : ItemsIn w B v xs := by
  obtain ⟨ps, hl, hown, hi⟩ := h
  rcases hown.2 with ⟨rfl, h0⟩ | ⟨g, cap, cur, rfl, hg, hh, hnc, hcm, hcs, htake⟩
  · refine ⟨none, 0, by rw [h0], fun h => by omega⟩
  · refine ⟨_, cap, rfl, fun h0 => ⟨g, cur, (0, 0), rfl, Nat.lt_of_lt_of_le (blk_lt hh) hB, hh, fun i x hx => ?_⟩⟩
    have hin : i < xs.length := by
      rcases Nat.lt_or_ge i xs.length with h | h
      · exact h
      · rw [List.getElem?_eq_none h] at hx; cases hx
    obtain ⟨p, hp⟩ : ∃ p, ps[i]? = some p := ⟨ps[i], by simp [hl, hin]⟩
    obtain ⟨h1, h2⟩ := hi i p x hp hx
    refine ⟨p, Nat.lt_of_lt_of_le (blk_lt h2) hB, ?_, h2⟩
    have h3 : (cur.toList.take (xs.length * 1))[i]? = some (ptr p) := by rw [htake, List.getElem?_map, hp]; rfl
    rw [List.getElem?_take, if_pos (by omega)] at h3
    rw [← Array.getElem?_toList]
    exact h3
theorem ItemsOwn.below {w w' : World} {base : Nat} {v : Value} {xs : List (Int × ByteArray)} (h : ItemsOwn w base v xs) (hb : Below w.heap.size w w') : ItemsOwn w' base v xs := by
  obtain ⟨ps, hl, hown, hi⟩ := h
  exact ⟨ps, hl, pw_own_below hown hb, fun i p x hp hx => ⟨(hi i p x hp hx).1, blk_below (hi i p x hp hx).2 hb⟩⟩
theorem ItemsOwn.drew {w : World} {base : Nat} {v : Value} {xs : List (Int × ByteArray)} (h : ItemsOwn w base v xs) : ItemsOwn w.drew base v xs := h
/-- A store into a block that is none of theirs. -/
theorem ItemsOwn.setFar {w : World} {base L : Nat} {v : Value} {xs : List (Int × ByteArray)} {cs : Array Value} {t : TypeId} (hL : w.heap[L]? = some (.cells cs t (0, 0))) (h1 : t ≠ 85) (h2 : t ≠ 84) (h : ItemsOwn w base v xs) (j : Nat) (u : Value) : ItemsOwn (w.setCell ⟨L, j, none⟩ u) base v xs := by
  obtain ⟨ps, hl, hown, hi⟩ := h
  refine ⟨ps, hl, ?_, fun i p x hp hx => ⟨(hi i p x hp hx).1, blk_far (hi i p x hp hx).2 (Ne.symm (blk_ne' hL (hi i p x hp hx).2 h2)) _⟩⟩
  refine hown.kept (row := some L) ⟨rfl, rfl, rfl, by simp [World.setCell], fun k _ hk => Below.heap_setCell _ _ _ _ (fun e => hk (by simp [e]))⟩ ?_
  rcases hown.2 with ⟨rfl, _⟩ | ⟨g, cap, cur, rfl, _, hh, _⟩
  · exact .inl rfl
  · refine .inr fun e => ?_
    have e : g = L := by simpa [Value.ownBlock] using e
    exact blk_ne' hL hh h1 e.symm
/-- One more. -/
theorem ItemsOwn.snoc {w w' : World} {base p : Nat} {v v' : Value} {xs : List (Int × ByteArray)} {x : Int × ByteArray} {ps : List Nat} (hl : ps.length = xs.length) (hown : w.ownsRow base 85 1 v xs.length (ps.map ptr)) (hi : ∀ (i p : Nat) x, ps[i]? = some p → xs[i]? = some x → base ≤ p ∧ w.heap[p]? = some (.cells #[.int .i64 x.1, .string x.2] 84 (0, 0))) (hp : w.heap[p]? = some (.cells #[.int .i64 x.1, .string x.2] 84 (0, 0))) (hbp : base ≤ p)
    (hown' : w'.ownsRow base 85 1 v' (xs.length + 1) (ps.map ptr ++ [ptr p])) (hg : w.grownBy w' v.ownBlock) : ItemsOwn w' base v' (xs ++ [x]) := by
  have far : ∀ (q : Nat) (y : Int × ByteArray), w.heap[q]? = some (.cells #[.int .i64 y.1, .string y.2] 84 (0, 0)) → w'.heap[q]? = some (.cells #[.int .i64 (y : Int × ByteArray).1, .string y.2] 84 (0, 0)) := by
    intro q y hq
    refine blk_grown hq hg ?_
    rcases hown.2 with ⟨rfl, _⟩ | ⟨g, cap, cur, rfl, _, hh, _⟩
    · simp [Value.ownBlock]
    · intro e
      have e : q = g := by simpa [Value.ownBlock] using e
      exact blk_ne' hq hh (by decide) e
  refine ⟨ps ++ [p], by simp [hl], by simpa using hown', fun i q y hq hy => ?_⟩
  by_cases hilt : i < xs.length
  · rw [List.getElem?_append_left (by omega)] at hq hy
    exact ⟨(hi i q y hq hy).1, far q y (hi i q y hq hy).2⟩
  · rw [List.getElem?_append_right (by omega)] at hq hy
    rw [show i - ps.length = 0 by
      have := List.getElem?_eq_some_iff.1 hq
      obtain ⟨h1, _⟩ := this
      simp at h1
      omega] at hq
    have h1 : i - xs.length = 0 := by
      have := List.getElem?_eq_some_iff.1 hy
      obtain ⟨h1, _⟩ := this
      simp at h1
      omega
    rw [h1] at hy
    simp at hq hy
    subst hq hy
    exact ⟨hbp, far _ _ hp⟩
theorem infoP : ∃ i, Try.prog.info? 85 = some i ∧ i.zero = some (.pointer none) ∧ i.size = 1 ∧ i.bytes = 8 := by
  obtain ⟨i, hi, h⟩ := Option.map_eq_some_iff.1 (show (Try.prog.info? 85).map (fun i => (i.zero, i.size, i.bytes)) = some (some (.pointer none), 1, 8) by kernel_rfl)
  simp only [Prod.mk.injEq] at h
  exact ⟨i, hi, h.1, h.2.1, h.2.2⟩
end Go.Proofs.YthepbgakfkiliaaR.Hand
