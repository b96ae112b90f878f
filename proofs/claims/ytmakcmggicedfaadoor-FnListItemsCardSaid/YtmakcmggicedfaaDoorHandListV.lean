/- Steps in a row, whose texts lie in an elder world; a row of them copied. -/
import Derived.Test.YtmakcmggicedfaaDoorPFnListItemsx3
import Derived.Test.YtmakcmggicedfaaDoorHandListU
import Derived.Deep.AppendLies
namespace Go.Proofs.YtmakcmggicedfaaDoor.Hand
open Go.RowKit Go.Proofs.YtmakcmggicedfaaDoorW.PrintWords Go.Proofs.YtmakcmggicedfaaDoor.Base
set_option linter.unusedVariables false
set_option linter.unusedSimpArgs false

/-- Steps as they read in the world wt. -/
def kHeld (wt : World) : Kd S38 where
  sz := 3
  E := []
  K := fun _ x cs => k38.K wt x cs
  M := fun _ _ _ x cs => k38.K wt x cs
  K_len := fun h => k38.K_len h
  K_one := fun h => k38.K_one h
  K_below := fun _ h => h
  K_of_M := fun h => h
  M_mono := fun _ h => h
  M_bound := fun h => h
  M_move := fun _ h => h
  M_lower := fun _ h => h
theorem held_of_R {e base : Nat} {ok : Nat → Prop} {w : World} {v : Value} {xs : List (S38)} (h : k38.R e w base ok v xs) : (kHeld w).R e w base ok v xs := by
  obtain ⟨h0, inner, ho, hr⟩ := h
  exact ⟨h0, inner, ho, hr.imp_ (fun _ _ hp => k38.K_of_M hp)⟩
theorem K_bare {w wt : World} {x : S38} {cs : List Value} (hx : x.f2 = []) (h : k38.K w x cs) : k38.K wt x cs := by
  obtain ⟨A, c, rfl, h1, _⟩ := k38_open h
  exact k38_mk wt x h1 (by rw [hx]; exact ⟨rfl, by simp, fun h0 => absurd h0 (by simp)⟩)
theorem held_bare {e base : Nat} {ok : Nat → Prop} {w : World} {v : Value} {xs : List (S38)} (wt : World) (h : k38.R e w base ok v xs) (hb : ∀ x ∈ xs, x.f2 = []) : (kHeld wt).R e w base ok v xs := by
  obtain ⟨h0, inner, ho, hr⟩ := h
  exact ⟨h0, inner, ho, hr.1, fun j p hj => K_bare (hb p (List.mem_of_getElem? hj)) (k38.K_of_M (hr.2 j p hj))⟩
theorem C_of_held {wt w : World} {A : Option Addr} {n : Nat} {xs : List (S38)} (h : (kHeld wt).C w A n xs) (hb : Below wt.heap.size wt w) : k38.C w A n xs :=
  ReadsRow.imp_ h (Below.refl _ _) (fun _ _ hp => k38.K_below hb hp)
theorem info_step : (Tryd.prog.info? 38).map (fun i => (i.zero, i.size, i.bytes)) = some (some (.agg #[.int .i64 0, .string ⟨#[]⟩, .slice none 0 0]), 3, 48) := by kernel_rfl
theorem own_empty3 {w : World} {base g : Nat} {e : TypeId} (hg : w.heap[g]? = some (.cells #[] e (0, 0))) (hb : base ≤ g) : w.ownsRow base e 3 (.slice (some ⟨g, 0, none⟩) 0 0) 0 [] := by
  unfold World.ownsRow
  refine ⟨by simp, Or.inr ⟨g, 0, #[], rfl, hb, hg, ?_⟩⟩
  simp
theorem reps_one {α : Type} {R : α → List Value → Prop} {ps : List α} {cs : List Value} (h : Reps R 3 ps cs) (hone : ∀ p c, R p c → ∀ u ∈ c, u.oneCell' = true) : ∀ u ∈ cs, u.oneCell' = true := by
  intro u hu
  obtain ⟨i, hi, rfl⟩ := List.getElem_of_mem hu
  have h1 := h.1
  have hj : i / 3 < ps.length := by omega
  have h2 := h.2 (i / 3) _ (List.getElem?_eq_getElem hj)
  refine hone _ _ h2 _ ?_
  have hm : ((cs.drop (i / 3 * 3)).take 3)[i % 3]? = some cs[i] := by
    rw [List.getElem?_take_of_lt (by omega), List.getElem?_drop, show i / 3 * 3 + i % 3 = i by omega, List.getElem?_eq_getElem hi]
  exact List.mem_of_getElem? hm
theorem wpList_copy {ops : Array Oper} {rest : List Oper} {o : Oper} {a : Act} {w : World} {Q : Exit → Act → World → Prop} (hgd : o.guard = none) (s x : Operand)
    (ho : o.op = .call { callee := .builtin .append, args := #[s, x], argTypes := #[30, 30] }) (base g0 : Nat) (wt : World) (b1 : Nat) (ok : Nat → Prop) (v1 : Value) (ts : List (S38))
    (hs : a.eval s = .slice (some ⟨g0, 0, none⟩) 0 0) (hx : a.eval x = v1) (hown : w.ownsRow base 38 3 (.slice (some ⟨g0, 0, none⟩) 0 0) 0 [])
    (hR : (kHeld wt).R 38 w b1 ok v1 ts) (hn : ts.length ≤ 1000000) (hbase : base ≤ w.heap.size)
    (h : ∀ g cap w', (kHeld wt).R 38 w' base (fun k => k = g) (.slice (some ⟨g, 0, none⟩) ts.length cap) ts → w.grownBy w' (some g0) → (g = g0 ∨ g = w.heap.size) → g < w'.heap.size → wpList Tryd.prog ops Q rest (a.put o.dst (.slice (some ⟨g, 0, none⟩) ts.length cap)) w') : wpList Tryd.prog ops Q (o :: rest) a w := by
  obtain ⟨i0, hi0, hz0, hz1, hz2⟩ := info_parts info_step
  obtain ⟨_, inner, ho1, hr⟩ := hR
  obtain ⟨hl1, hv⟩ := ho1
  rcases hv with ⟨rfl, h0⟩ | ⟨g, cap, cur, rfl, hb, hh, h3, h4, h5, h6⟩
  · have ht : ts = [] := List.eq_nil_of_length_eq_zero h0
    subst ht
    have hlt : g0 < w.heap.size := own_lt hown g0 rfl
    have hi : inner = [] := List.eq_nil_of_length_eq_zero (by simpa using hl1)
    have hK := h g0 0 w ⟨fun k hk => by simpa [Value.ownBlock] using hk.symm, [], hown, Reps.none _ _⟩ ⟨rfl, rfl, rfl, Nat.le_refl _, fun _ _ _ => rfl⟩ (Or.inl rfl) hlt
    refine wpList_plain hgd fun K' hK' => ?_
    have hK2 := hK' _ _ hK
    unfold Oper.wp execOp
    simp only [List.length_nil] at hK2
    simp only [ho, resolve, invoke, builtin, Sem.run_bind, Sem.run_pure, Result.andThen_ok, List.map_toArray, List.map_cons, List.map_nil, hs, hx]
    clear hs hx
    simp [go_sem]
    exact hK2
  · by_cases hp : 0 < ts.length
    · have hone := reps_one hr (fun p c hp => (kHeld wt).K_one (w := w) ((kHeld wt).K_of_M hp))
      refine wpList_append_lies (w := w) (hgd := hgd) (s := s) (x := x) (t := 30) (ho := ho) (base := base) (e := 38) (i := i0) (z := _) (size := 3) (bytes := 48) (ht := Tryd.underlying30) (hi := hi0) (hz := hz0) (hsize := hz1) (hby := hz2) (hzs := by rfl) (hsz := by decide) (v := _) (n := 0) (xs := []) (hs := hs) (hown := hown) (ad := ⟨g, 0, none⟩) (m := ts.length) (c := cap) (news := inner) (hx := hx) (hl := hl1) (hnews := ?_) (h1 := hone) (hm := hp) (h63 := by unfold maxLen; omega) (hbytes := by omega) (hbase := hbase) (H := _) (hH := rfl) (h := ?_)
      · intro j u hj
        have hadd : (⟨g, 0, none⟩ : Addr).add j = ⟨g, j, none⟩ := by unfold Addr.add; split <;> simp_all
        have hjl : j < inner.length := by
          rcases Nat.lt_or_ge j inner.length with h | h
          · exact h
          · rw [List.getElem?_eq_none h] at hj; cases hj
        rw [hadd, blk_cell hh, ← Array.getElem?_toList]
        rw [← h6, List.getElem?_take_of_lt (by omega)] at hj
        exact hj
      · intro g' cap' w' h1 h2 h3' h4'
        simp only [Nat.zero_add, List.nil_append] at h1 ⊢
        exact h g' cap' w' ⟨fun k hk => by simpa [Value.ownBlock] using hk.symm, inner, h1, hr⟩ h2 (h3'.imp (fun e => by simpa [Value.ownBlock] using e.symm) (fun e => e)) h4'
    · have ht : ts = [] := List.eq_nil_of_length_eq_zero (by omega)
      subst ht
      have hlt : g0 < w.heap.size := own_lt hown g0 rfl
      have hK := h g0 0 w ⟨fun k hk => by simpa [Value.ownBlock] using hk.symm, [], hown, Reps.none _ _⟩ ⟨rfl, rfl, rfl, Nat.le_refl _, fun _ _ _ => rfl⟩ (Or.inl rfl) hlt
      refine wpList_plain hgd fun K' hK' => ?_
      have hK2 := hK' _ _ hK
      unfold Oper.wp execOp
      simp only [List.length_nil] at hK2 hx
      simp only [ho, resolve, invoke, builtin, Sem.run_bind, Sem.run_pure, Result.andThen_ok, List.map_toArray, List.map_cons, List.map_nil, hs, hx]
      clear hs hx
      simp [go_sem]
      exact hK2
end Go.Proofs.YtmakcmggicedfaaDoor.Hand
