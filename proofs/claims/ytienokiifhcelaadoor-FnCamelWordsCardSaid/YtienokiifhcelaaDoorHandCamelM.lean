/- A row of rows of runes, made by the call: each row its own block. -/
import Derived.Test.YtienokiifhcelaaDoorHandCamelF
import Derived.Test.YtienokiifhcelaaDoorIt
import Derived.Deep.RegionHeld3
namespace Go.Proofs.YtienokiifhcelaaDoor.Hand
open Go.RowKit Go.Proofs.YtienokiifhcelaaDoorW.PrintWords Go.Proofs.YtienokiifhcelaaDoor.Base
set_option linter.unusedVariables false
set_option linter.unusedSimpArgs false

theorem infoR : (Tryd.prog.info? 21).map (fun i => (i.zero, i.size, i.bytes)) = some (some (.int .i32 0), 1, 4) := by kernel_rfl
theorem infoS : (Tryd.prog.info? 32).map (fun i => (i.zero, i.size, i.bytes)) = some (some (.slice none 0 0), 1, 24) := by kernel_rfl
theorem infoT : (Tryd.prog.info? 9).map (fun i => (i.zero, i.size, i.bytes)) = some (some (.string ByteArray.empty), 1, 16) := by kernel_rfl
def runeV (g : List UInt8) : List Value := (codes g).map (Value.int .i32)
theorem runeV_len (g : List UInt8) : (runeV g).length = g.length := by simp [runeV, codes]
/-- A row of the call's own with these runes. -/
def RowAt (B : Nat) (W : World) (u : Value) (g : List UInt8) : Prop := W.ownsRow B 21 1 u g.length (runeV g)
/-- The rows stand apart. -/
def Apart (vs : List Value) : Prop := ∀ (i j : Nat) (u u' : Value) (k : Nat), i ≠ j → vs[i]? = some u → vs[j]? = some u' → u.ownBlock = some k → u'.ownBlock ≠ some k
structure Rws (B : Nat) (W : World) (v : Value) (vs : List Value) (gs : List (List UInt8)) : Prop where
  own : W.ownsRow B 32 1 v gs.length vs
  row : ∀ (i : Nat) (u : Value) (g : List UInt8), vs[i]? = some u → gs[i]? = some g → RowAt B W u g
  apart : Apart vs
section
variable {B : Nat} {W W' : World} {v u : Value} {vs : List Value} {gs : List (List UInt8)} {g : List UInt8}
theorem own_form {e : TypeId} {n : Nat} {xs : List Value} (h : W.ownsRow B e 1 u n xs) : ∃ A c, u = .slice A n c := by
  rcases h.2 with ⟨hv, h0⟩ | ⟨g, cap, cur, hv, _⟩
  · exact ⟨none, 0, by rw [hv, h0]⟩
  · exact ⟨_, _, hv⟩
theorem own_at {e : TypeId} {n G c i : Nat} {xs : List Value} {x : Value} (h : W.ownsRow B e 1 (.slice (some ⟨G, 0, none⟩) n c) n xs) (hx : xs[i]? = some x) : W.cell? ⟨G, i, none⟩ = some x ∧ W.frozen? ⟨G, i, none⟩ = false ∧ n ≤ c ∧ ∃ cur, W.heap[G]? = some (.cells cur e (0, 0)) := by
  obtain ⟨h1, h2⟩ := h
  rw [Nat.mul_one] at h1
  rcases h2 with ⟨h2, _⟩ | ⟨g, cap, cur, hv, hb, hh, h3, h4, h5, h6⟩
  · cases h2
  · simp only [Value.slice.injEq, Option.some.injEq, Addr.mk.injEq, and_true, true_and] at hv
    obtain ⟨rfl, rfl⟩ := hv
    rw [Nat.mul_one] at h5 h6
    refine ⟨?_, blk_frozen hh i, h3, cur, hh⟩
    rw [blk_cell hh]
    have hlt : i < n := by
      rcases Nat.lt_or_ge i xs.length with h | h
      · omega
      · rw [List.getElem?_eq_none h] at hx; cases hx
    rw [← h6, List.getElem?_take_of_lt hlt] at hx
    simpa using hx
theorem one_val {x : Value} (h : x.oneCell' = true) : ∀ u ∈ [x], u.oneCell' = true := fun u hu => by
  have : u = x := by simpa using hu
  rw [this]; exact h
theorem runeV_snoc (g : List UInt8) (b : UInt8) : runeV (g ++ [b]) = runeV g ++ [.int .i32 (b.toNat : Int)] := by simp [runeV, codes]
theorem Rws.len (h : Rws B W v vs gs) : vs.length = gs.length := h.own.1.trans (Nat.mul_one _)
theorem Rws.nil (B : Nat) (W : World) : Rws B W (.slice none 0 0) [] [] := ⟨⟨rfl, Or.inl ⟨rfl, rfl⟩⟩, fun i u g h => by simp at h, fun i j u u' k _ h => by simp at h⟩
theorem Rws.move (h : Rws B W v vs gs) (hm : ∀ k, (v.ownBlock = some k ∨ ∃ (i : Nat) (u : Value), vs[i]? = some u ∧ u.ownBlock = some k) → W'.heap[k]? = W.heap[k]?) : Rws B W' v vs gs :=
  ⟨own_move h.own (fun k hk => hm k (Or.inl hk)), fun i u g hu hg => own_move (h.row i u g hu hg) (fun k hk => hm k (Or.inr ⟨i, u, hu, hk⟩)), h.apart⟩
theorem Rws.lt (h : Rws B W v vs gs) (k : Nat) (hk : v.ownBlock = some k ∨ ∃ (i : Nat) (u : Value), vs[i]? = some u ∧ u.ownBlock = some k) : k < W.heap.size := by
  rcases hk with hk | ⟨i, u, hu, hk⟩
  · exact own_lt h.own k hk
  · have hi : i < gs.length := by
      rw [← h.len]
      rcases Nat.lt_or_ge i vs.length with h' | h'
      · exact h'
      · rw [List.getElem?_eq_none h'] at hu; cases hu
    exact own_lt (h.row i u _ hu (List.getElem?_eq_getElem hi)) k hk
theorem Rws.below (h : Rws B W v vs gs) (hb : Below W.heap.size W W') : Rws B W' v vs gs := h.move (fun k hk => hb.block k (h.lt k hk))
theorem own_ne {e e' : TypeId} {n n' : Nat} {xs ys : List Value} {u u' : Value} (h : W.ownsRow B e 1 u n xs) (h' : W.ownsRow B e' 1 u' n' ys) (hne : e ≠ e') {k : Nat} (hk : u.ownBlock = some k) : u'.ownBlock ≠ some k := by
  intro hk'
  obtain ⟨c, hc⟩ := own_typed h k hk
  obtain ⟨c', hc'⟩ := own_typed h' k hk'
  rw [hc] at hc'
  simp only [Option.some.injEq, Obj.cells.injEq] at hc'
  exact hne hc'.2.1
theorem own_ne_iter {e : TypeId} {n : Nat} {xs : List Value} (h : W.ownsRow B e 1 u n xs) {I : Nat} {s : ByteArray} {q : Nat} (hI : W.heap[I]? = some (.stringIter s q)) : u.ownBlock ≠ some I := by
  intro hk
  obtain ⟨c, hc⟩ := own_typed h I hk
  rw [hc] at hI
  cases hI
/-- A range's step keeps the rows. -/
theorem Rws.iter (h : Rws B W v vs gs) {I : Nat} {s : ByteArray} {q : Nat} (hI : W.heap[I]? = some (.stringIter s q)) (hg : W.grownBy W' (some I)) : Rws B W' v vs gs := by
  refine h.move (fun k hk => hg.block k (h.lt k hk) (fun e => ?_))
  rcases hk with hk | ⟨i, u, hu, hk⟩
  · exact own_ne_iter h.own hI (hk.trans e)
  · have hi : i < gs.length := by
      rw [← h.len]
      rcases Nat.lt_or_ge i vs.length with h' | h'
      · exact h'
      · rw [List.getElem?_eq_none h'] at hu; cases hu
    exact own_ne_iter (h.row i u _ hu (List.getElem?_eq_getElem hi)) hI (hk.trans e)
/-- A new row behind. -/
theorem Rws.push {W2 : World} {v2 : Value} (h : Rws B W v vs gs) (hg : W.grownBy W2 v.ownBlock) (ho : W2.ownsRow B 32 1 v2 (gs.length + 1) (vs ++ [u])) (hu : RowAt B W2 u g) (hfr : ∀ k, u.ownBlock = some k → ∀ (i : Nat) (u' : Value), vs[i]? = some u' → u'.ownBlock ≠ some k) : Rws B W2 v2 (vs ++ [u]) (gs ++ [g]) := by
  have hl := h.len
  refine ⟨by rw [List.length_append]; exact ho, ?_, ?_⟩
  · intro i u' g' h1 h2
    rcases Nat.lt_or_ge i vs.length with hi | hi
    · rw [List.getElem?_append_left hi] at h1
      rw [List.getElem?_append_left (by omega)] at h2
      have hr := h.row i u' g' h1 h2
      exact own_move hr (fun k hk => hg.block k (own_lt hr k hk) (fun e => own_ne hr h.own (by decide) hk e.symm))
    · rw [List.getElem?_append_right hi] at h1
      rw [List.getElem?_append_right (by omega)] at h2
      have h0 : i - vs.length = 0 := by
        rcases Nat.eq_zero_or_pos (i - vs.length) with h' | h'
        · exact h'
        · rw [List.getElem?_eq_none (by simp; omega)] at h1; cases h1
      rw [h0] at h1
      rw [show i - gs.length = 0 by omega] at h2
      simp only [List.getElem?_cons_zero, Option.some.injEq] at h1 h2
      rw [← h1, ← h2]
      exact hu
  · intro i j a b k hij h1 h2 hk
    rcases Nat.lt_or_ge i vs.length with hi | hi
    · rw [List.getElem?_append_left hi] at h1
      rcases Nat.lt_or_ge j vs.length with hj | hj
      · rw [List.getElem?_append_left hj] at h2
        exact h.apart i j a b k hij h1 h2 hk
      · rw [List.getElem?_append_right hj] at h2
        have h0 : j - vs.length = 0 := by
          rcases Nat.eq_zero_or_pos (j - vs.length) with h' | h'
          · exact h'
          · rw [List.getElem?_eq_none (by simp; omega)] at h2; cases h2
        rw [h0] at h2
        simp only [List.getElem?_cons_zero, Option.some.injEq] at h2
        rw [← h2]
        intro e
        exact hfr k e i a h1 hk
    · rw [List.getElem?_append_right hi] at h1
      have h0 : i - vs.length = 0 := by
        rcases Nat.eq_zero_or_pos (i - vs.length) with h' | h'
        · exact h'
        · rw [List.getElem?_eq_none (by simp; omega)] at h1; cases h1
      rw [h0] at h1
      simp only [List.getElem?_cons_zero, Option.some.injEq] at h1
      rw [← h1] at hk
      rcases Nat.lt_or_ge j vs.length with hj | hj
      · rw [List.getElem?_append_left hj] at h2
        exact hfr k hk j b h2
      · rw [List.getElem?_append_right hj] at h2
        have h0' : j - vs.length = 0 := by
          rcases Nat.eq_zero_or_pos (j - vs.length) with h' | h'
          · exact h'
          · rw [List.getElem?_eq_none (by simp; omega)] at h2; cases h2
        omega
/-- A row turned (its block grown, or a new one), and stored at its place. -/
theorem Rws.put {W2 : World} {G c : Nat} {u2 : Value} {g2 : List UInt8} {i : Nat} (h : Rws B W v vs gs) (hv : v = .slice (some ⟨G, 0, none⟩) gs.length c) (hu : vs[i]? = some u) (hg : W.grownBy W2 u.ownBlock) (ho : RowAt B W2 u2 g2) (hat : u2.ownBlock = u.ownBlock ∨ (∃ b, u2.ownBlock = some b ∧ W.heap.size ≤ b) ∨ u2.ownBlock = none) : Rws B (W2.setCell ⟨G, i, none⟩ u2) v (vs.set i u2) (gs.set i g2) := by
  have hi : i < vs.length := by
    rcases Nat.lt_or_ge i vs.length with h' | h'
    · exact h'
    · rw [List.getElem?_eq_none h'] at hu; cases hu
  have hl := h.len
  have hrow := h.row i u _ hu (List.getElem?_eq_getElem (by omega : i < gs.length))
  have hvG : v.ownBlock = some G := by rw [hv]; rfl
  have hown2 : W2.ownsRow B 32 1 v gs.length vs := own_move h.own (fun k hk => hg.block k (own_lt h.own k hk) (fun e => own_ne hrow h.own (by decide) e.symm hk))
  have hG2 : ∀ w n xs, W2.ownsRow B 21 1 w n xs → ∀ k, w.ownBlock = some k → (W2.setCell ⟨G, i, none⟩ u2).heap[k]? = W2.heap[k]? := fun w n xs hw k hk => Below.heap_setCell _ _ _ _ (fun e => own_ne hw hown2 (by decide) hk (by rw [hvG]; exact congrArg some e.symm))
  refine ⟨?_, ?_, ?_⟩
  · rw [List.length_set]
    obtain ⟨h1, h2⟩ := hown2
    rcases h2 with ⟨h2, _⟩ | ⟨g', cap, cur, hv', hb, hh, h3, h4, h5, h6⟩
    · rw [hv] at h2; cases h2
    · have : g' = G := by rw [hv'] at hvG; simpa [Value.ownBlock] using hvG
      subst this
      refine ⟨by simpa using h1, Or.inr ⟨g', cap, cur.setIfInBounds i u2, hv', hb, blk_put hh i u2 rfl, h3, h4, by simpa using h5, ?_⟩⟩
      rw [Array.toList_setIfInBounds, List.take_set, h6]
  · intro j a b h1 h2
    by_cases hj : j = i
    · subst hj
      rw [List.getElem?_set_self hi] at h1
      rw [List.getElem?_set_self (by omega)] at h2
      obtain rfl := Option.some.inj h1
      obtain rfl := Option.some.inj h2
      exact own_move ho (fun k hk => hG2 _ _ _ ho k hk)
    · rw [List.getElem?_set_ne (fun e => hj e.symm)] at h1 h2
      have hr := h.row j a b h1 h2
      have hr2 : RowAt B W2 a b := own_move hr (fun k hk => hg.block k (own_lt hr k hk) (fun e => h.apart j i a u k hj h1 hu hk e.symm))
      exact own_move hr2 (fun k hk => hG2 _ _ _ hr2 k hk)
  · have key : ∀ (j : Nat) (a : Value) (k : Nat), j ≠ i → vs[j]? = some a → a.ownBlock = some k → u2.ownBlock ≠ some k := by
      intro j a k hj h1 hk e
      rcases hat with e1 | ⟨b, e1, hb⟩ | e1
      · exact h.apart j i a u k hj h1 hu hk (e1.symm.trans e)
      · have := h.lt k (Or.inr ⟨j, a, h1, hk⟩)
        rw [e1] at e
        have := Option.some.inj e
        omega
      · rw [e1] at e; cases e
    intro j j' a a' k hjj h1 h2 hk
    by_cases hj : j = i
    · subst hj
      rw [List.getElem?_set_self hi] at h1
      obtain rfl := Option.some.inj h1
      rw [List.getElem?_set_ne hjj] at h2
      intro e
      exact key j' a' k (fun e => hjj e.symm) h2 e hk
    · rw [List.getElem?_set_ne (fun e => hj e.symm)] at h1
      by_cases hj' : j' = i
      · subst hj'
        rw [List.getElem?_set_self hi] at h2
        obtain rfl := Option.some.inj h2
        exact key j a k hj h1 hk
      · rw [List.getElem?_set_ne (fun e => hj' e.symm)] at h2
        exact h.apart j j' a a' k hjj h1 h2 hk
end
end Go.Proofs.YtienokiifhcelaaDoor.Hand
