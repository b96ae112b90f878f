/- Growing, no column gets narrower, none grows beyond its most, and they grow by what lacks, unless none can grow. -/
import Derived.Test.YtedknmaaaaomoaaPFnGrownCapsx1
import Derived.Test.YtedknmaaaaomoaaBase
namespace Go.Proofs.Ytedknmaaaaomoaa.Pure
open Go.RowKit Go.Proofs.Ytedknmaaaaomoaa.PFnGrownCaps Go.Proofs.YtedknmaaaaomoaaW.PrintWords Go.Proofs.YtedknmaaaaomoaaW.PrintLast Go.Proofs.YtedknmaaaaomoaaW.PrintMore
open Go.Proofs.Ytedknmaaaaomoaa.Base Go.Proofs.Ytedknmaaaaomoaa.Hand Go.Proofs.Ytedknmaaaaomoaa
set_option linter.unusedSimpArgs false
set_option linter.unusedVariables false
set_option maxRecDepth 10000

theorem w_succ (i : Nat) (h : i ≤ 1000000000000000) : wrap64 ((i : Int) + 1) = ((i + 1 : Nat) : Int) := by rw [wrap64_id (by omega) (by omega)]; omega
theorem rd_nat (l : List Int) (i : Nat) : rd l (i : Int) = l.getD i 0 := by simp [rd]
def can1 (c g : Int) : Prop := c = 0 ∨ g < c
/-- What one round gives. -/
theorem in_get : ∀ (l : List (Int × Int)) (p : Int) (j : Nat), j < l.length → (l.getD j (0, 0)).1 ≤ (growIn l p).1.getD j 0 ∧ (0 < (l.getD j (0, 0)).2 → (growIn l p).1.getD j 0 ≤ mx (l.getD j (0, 0)).2 (l.getD j (0, 0)).1) ∧ (0 < p → (growIn l p).2 = p → ¬ can1 (l.getD j (0, 0)).2 ((growIn l p).1.getD j 0))
  | [], p, j, h => by simp at h
  | x :: r, p, 0, h => by
    unfold growIn
    split
    · rename_i hg
      have h1 := growIn_le r (p - 1)
      refine ⟨by simp; omega, fun hc => ?_, fun hp hq => ?_⟩
      · simp [mx] at hc ⊢
        split <;> omega
      · have : (growIn r (p - 1)).2 = p := hq
        omega
    · rename_i hg
      refine ⟨by simp, fun hc => ?_, fun hp hq => ?_⟩
      · simp [mx]
        split <;> omega
      · unfold can1
        simp
        omega
  | x :: r, p, j + 1, h => by
    have hl : j < r.length := by simpa using h
    unfold growIn
    split
    · rename_i hg
      obtain ⟨a, b, c⟩ := in_get r (p - 1) j hl
      have h1 := growIn_le r (p - 1)
      refine ⟨by simpa using a, by simpa using b, fun hp hq => ?_⟩
      have : (growIn r (p - 1)).2 = p := hq
      omega
    · obtain ⟨a, b, c⟩ := in_get r p j hl
      exact ⟨by simpa using a, by simpa using b, fun hp hq => by simpa using c hp hq⟩
theorem in_sum : ∀ (l : List (Int × Int)) (p : Int), (growIn l p).1.sum - (l.map (·.1)).sum = p - (growIn l p).2
  | [], p => by simp [growIn]
  | x :: r, p => by
    unfold growIn
    split
    · have := in_sum r (p - 1)
      simp only [List.sum_cons, List.map_cons]
      omega
    · have := in_sum r p
      simp only [List.sum_cons, List.map_cons]
      omega
theorem zip_get (ws caps : List Int) (h : ws.length = caps.length) (j : Nat) (hj : j < ws.length) : (ws.zip caps).getD j (0, 0) = (ws.getD j 0, caps.getD j 0) := by
  have hc : j < caps.length := by omega
  have hz : j < (ws.zip caps).length := by rw [List.length_zip]; omega
  rw [List.getD, List.getElem?_eq_getElem hz, List.getElem_zip]
  simp [List.getD, hj, hc]
theorem out_get (caps : List Int) : ∀ (k : Nat) (ws : List Int) (p : Int), ws.length = caps.length → p.toNat ≤ k →
    (∀ j < ws.length, ws.getD j 0 ≤ (growOut caps k ws p).getD j 0 ∧ (0 < caps.getD j 0 → (growOut caps k ws p).getD j 0 ≤ mx (caps.getD j 0) (ws.getD j 0))) ∧
    ((growOut caps k ws p).sum - ws.sum = mx 0 p ∨ ((growOut caps k ws p).sum - ws.sum < p ∧ ∀ j < ws.length, ¬ can1 (caps.getD j 0) ((growOut caps k ws p).getD j 0))) := by
  have base : ∀ (k : Nat) (ws : List Int) (p : Int), p ≤ 0 → (∀ j < ws.length, ws.getD j 0 ≤ (growOut caps k ws p).getD j 0 ∧ (0 < caps.getD j 0 → (growOut caps k ws p).getD j 0 ≤ mx (caps.getD j 0) (ws.getD j 0))) ∧
    ((growOut caps k ws p).sum - ws.sum = mx 0 p ∨ ((growOut caps k ws p).sum - ws.sum < p ∧ ∀ j < ws.length, ¬ can1 (caps.getD j 0) ((growOut caps k ws p).getD j 0))) := by
    intro k ws p hp
    rw [growOut_zero caps k ws p hp]
    refine ⟨fun j _ => ⟨Int.le_refl _, fun hc => ?_⟩, Or.inl ?_⟩
    · unfold mx
      split <;> omega
    · unfold mx
      split <;> omega
  intro k
  induction k with
  | zero => exact fun ws p _ hp => base 0 ws p (by omega)
  | succ k ih =>
    intro ws p hl hp
    by_cases h0 : p ≤ 0
    · exact base _ ws p h0
    · have hz : (ws.zip caps).length = ws.length := by rw [List.length_zip]; omega
      have hs := in_sum (ws.zip caps) p
      rw [List.map_fst_zip (by omega)] at hs
      have hle := growIn_le (ws.zip caps) p
      have hg : ∀ j < ws.length, ws.getD j 0 ≤ (growIn (ws.zip caps) p).1.getD j 0 ∧ (0 < caps.getD j 0 → (growIn (ws.zip caps) p).1.getD j 0 ≤ mx (caps.getD j 0) (ws.getD j 0)) ∧ (0 < p → (growIn (ws.zip caps) p).2 = p → ¬ can1 (caps.getD j 0) ((growIn (ws.zip caps) p).1.getD j 0)) := by
        intro j hj
        have := in_get (ws.zip caps) p j (by omega)
        rw [zip_get ws caps hl j hj] at this
        exact this
      have hlen := growIn_len (ws.zip caps) p
      rw [growOut, if_neg h0]
      split
      · rename_i he
        refine ⟨fun j hj => ⟨(hg j hj).1, (hg j hj).2.1⟩, Or.inr ⟨by omega, fun j hj => (hg j hj).2.2 (by omega) he⟩⟩
      · rename_i he
        obtain ⟨a, b⟩ := ih (growIn (ws.zip caps) p).1 (growIn (ws.zip caps) p).2 (by omega) (by omega)
        refine ⟨fun j hj => ?_, ?_⟩
        · obtain ⟨h1, h2, _⟩ := hg j hj
          obtain ⟨h3, h4⟩ := a j (by omega)
          refine ⟨by omega, fun hc => ?_⟩
          have h5 := h2 hc
          have h6 := h4 hc
          unfold mx at h5 h6 ⊢
          split at h5 <;> split at h6 <;> split <;> omega
        · rcases b with b | ⟨b, c⟩
          · left
            have : mx 0 (growIn (ws.zip caps) p).2 = (growIn (ws.zip caps) p).2 := by unfold mx; split <;> omega
            rw [this] at b
            unfold mx
            split <;> omega
          · exact Or.inr ⟨by omega, fun j hj => c j (by omega)⟩

theorem fits_ev (l : List Int) (most low high : Int) (hl : l.length ≤ 1000000000000000) : ∃ b, Ev (fun k => laws_fits.f k l most low high) b ∧ (b = true → (l.length : Int) ≤ most ∧ ∀ x ∈ l, low ≤ x ∧ x ≤ high) := by
  have key : ∀ (r p : List Int), l = p ++ r → ∃ b, Ev (fun k => laws_fits.l0 k l most low high (p.length : Int)) b ∧ (b = true → (l.length : Int) ≤ most ∧ ∀ x ∈ r, low ≤ x ∧ x ≤ high) := by
    intro r
    induction r with
    | nil =>
      intro p hp
      refine ⟨_, Ev.step (f := fun _ => some (decide ((l.length : Int) ≤ most))) (fun k => ?_) (Ev.now _), fun h => ⟨of_decide_eq_true h, fun x hx => by cases hx⟩⟩
      simp only [laws_fits.l0]
      rw [if_neg (by rw [hp]; simp)]
    | cons q r ih =>
      intro p hp
      have hlen : l.length = p.length + r.length + 1 := by rw [hp]; simp; omega
      have hrd : rd l (p.length : Int) = q := rd_at hp
      by_cases c1 : q < low
      · refine ⟨false, Ev.step (f := fun _ => some false) (fun k => ?_) (Ev.now _), fun h => by cases h⟩
        simp only [laws_fits.l0]
        rw [if_pos (by omega), if_pos (by omega), hrd, if_pos c1]
      by_cases c2 : q > high
      · refine ⟨false, Ev.step (f := fun _ => some false) (fun k => ?_) (Ev.now _), fun h => by cases h⟩
        simp only [laws_fits.l0]
        rw [if_pos (by omega), if_pos (by omega), hrd, if_neg c1, if_pos c2]
      obtain ⟨b, hb, hg⟩ := ih (p ++ [q]) (by rw [hp]; simp)
      rw [← succ_len (q := q) (by omega)] at hb
      refine ⟨b, Ev.step (f := _) (fun k => ?_) hb, fun h => ⟨(hg h).1, fun x hx => ?_⟩⟩
      · simp only [laws_fits.l0]
        rw [if_pos (by omega), if_pos (by omega), hrd, if_neg c1, if_neg c2]
      · rcases List.mem_cons.1 hx with rfl | hx
        · omega
        · exact (hg h).2 x hx
  exact key l [] rfl

theorem at_some (l : List Int) (i : Nat) : spec_At.f l (i : Int) = some (atL l i) := by
  unfold spec_At.f spec_at.f
  by_cases h : i < l.length
  · rw [if_pos (by omega), if_pos (by omega), rd_nat]
    rfl
  · rw [if_neg (by omega)]
    simp [atL, List.getD, List.getElem?_eq_none (show l.length ≤ i by omega)]

/-- How much the first columns have grown. -/
def grew (got ws : List Int) (i : Nat) : Int := (got.take i).sum - (ws.take i).sum
theorem take_sum (l : List Int) (i : Nat) (h : i < l.length) : (l.take (i + 1)).sum = (l.take i).sum + l.getD i 0 := by
  rw [List.take_succ_eq_append_getElem h, List.sum_append]
  simp [List.getD, h]
theorem grew_succ (got ws : List Int) (i : Nat) (h1 : i < got.length) (h2 : i < ws.length) : grew got ws (i + 1) = grew got ws i + (got.getD i 0 - ws.getD i 0) := by
  unfold grew
  rw [take_sum got i h1, take_sum ws i h2]
  omega
theorem grew_mono (got ws : List Int) (hl : got.length = ws.length) (h : ∀ j < ws.length, ws.getD j 0 ≤ got.getD j 0) : ∀ (d i : Nat), i + d ≤ ws.length → grew got ws i ≤ grew got ws (i + d)
  | 0, i, _ => Int.le_refl _
  | d + 1, i, hd => by
    have h1 := grew_mono got ws hl h d i (by omega)
    have h2 := grew_succ got ws (i + d) (by omega) (by omega)
    have h3 := h (i + d) (by omega)
    rw [show i + (d + 1) = i + d + 1 by omega]
    omega
/-- Whether one of the first columns can grow. -/
def canB (got caps : List Int) : Nat → Bool
  | 0 => false
  | i + 1 => if canB got caps i = true then true else if atL caps i = 0 then true else decide (got.getD i 0 < atL caps i)
theorem canB_true (got caps : List Int) : ∀ i, canB got caps i = true → ∃ j < i, can1 (atL caps j) (got.getD j 0)
  | 0, h => by cases h
  | i + 1, h => by
    unfold canB at h
    split at h
    · rename_i h1
      obtain ⟨j, hj, hc⟩ := canB_true got caps i h1
      exact ⟨j, by omega, hc⟩
    · split at h
      · rename_i h2
        exact ⟨i, by omega, Or.inl h2⟩
      · exact ⟨i, by omega, Or.inr (of_decide_eq_true h)⟩

theorem loop_ev (ws caps got : List Int) (len least : Int) (hl : got.length = ws.length) (hn : ws.length ≤ 1000000) (hw : ∀ j < ws.length, 0 ≤ ws.getD j 0 ∧ ws.getD j 0 ≤ 1000000)
    (h1 : ∀ j < ws.length, ws.getD j 0 ≤ got.getD j 0) (h2 : ∀ j < ws.length, 0 < atL caps j → got.getD j 0 ≤ mx (atL caps j) (ws.getD j 0)) (hP : -1000000 ≤ least - len ∧ least - len ≤ 1000000)
    (h3 : grew got ws ws.length = mx 0 (least - len) ∨ (grew got ws ws.length < least - len ∧ ∀ j < ws.length, ¬ can1 (atL caps j) (got.getD j 0))) :
    ∀ (d i : Nat), ws.length - i ≤ d → i ≤ ws.length → Ev (fun k => laws_FnGrownCaps.l0 k ws caps len least got (grew got ws i) (canB got caps i) (i : Int)) true := by
  have hP2 : mx 0 (least - len) ≤ 1000000 := by unfold mx; split <;> omega
  have hD : grew got ws ws.length ≤ 1000000 := by rcases h3 with h | ⟨h, _⟩ <;> omega
  have ew : wrap64 (least - len) = least - len := wrap64_id (by omega) (by omega)
  have base : ∀ i, i = ws.length → Ev (fun k => laws_FnGrownCaps.l0 k ws caps len least got (grew got ws i) (canB got caps i) (i : Int)) true := by
    intro i hi
    refine Ev.step (f := fun _ => some true) (fun k => ?_) (Ev.now _)
    simp only [laws_FnGrownCaps.l0]
    rw [if_neg (by omega), ew]
    rcases h3 with h | ⟨h, hc⟩
    · rw [if_pos (by rw [hi]; exact h)]
    · by_cases he : grew got ws i = mx 0 (least - len)
      · rw [if_pos he]
      · rw [if_neg he, if_pos (by rw [hi]; exact h)]
        have : canB got caps i = false := by
          cases hb : canB got caps i with
          | false => rfl
          | true =>
            obtain ⟨j, hj, hcj⟩ := canB_true got caps i hb
            exact absurd hcj (hc j (by omega))
        rw [this]
        rfl
  intro d
  induction d with
  | zero => exact fun i a b => base i (by omega)
  | succ d ih =>
    intro i a b
    by_cases hi : i < ws.length
    · have hm0 := grew_mono got ws hl h1 i 0 (by omega)
      rw [Nat.zero_add] at hm0
      have h00 : grew got ws 0 = 0 := by simp [grew]
      have hm1 := grew_mono got ws hl h1 (ws.length - (i + 1)) (i + 1) (by omega)
      rw [show i + 1 + (ws.length - (i + 1)) = ws.length by omega] at hm1
      have hgs := grew_succ got ws i (by omega) hi
      have g1 := h1 i hi
      have g2 := h2 i hi
      have g3 := hw i hi
      have hr := ih (i + 1) (by omega) (by omega)
      have hsum : wrap64 (grew got ws i + wrap64 (got.getD i 0 - ws.getD i 0)) = grew got ws (i + 1) := by
        rw [wrap64_id (x := got.getD i 0 - ws.getD i 0) (by omega) (by omega), wrap64_id (by omega) (by omega), hgs]
      have hcan : canB got caps (i + 1) = if canB got caps i = true then true else if atL caps i = 0 then true else decide (got.getD i 0 < atL caps i) := rfl
      refine Ev.step (f := _) (fun k => ?_) hr
      simp only [laws_FnGrownCaps.l0]
      rw [if_pos (by omega), at_some]
      simp only [Option.bind_some]
      rw [if_pos (by omega), if_pos (by omega), rd_nat, rd_nat, if_neg (by omega), w_succ i (by omega), hsum, hcan]
      by_cases c0 : atL caps i > 0
      · rw [if_pos c0, if_neg (by have := g2 c0; omega)]
        by_cases c1 : canB got caps i = true
        · rw [if_pos c1, if_pos c1]
        · rw [if_neg c1, if_neg c1]
          by_cases c2 : atL caps i = 0
          · rw [if_pos c2, if_pos c2]
          · rw [if_neg c2, if_neg c2]
      · rw [if_neg c0]
        by_cases c1 : canB got caps i = true
        · rw [if_pos c1, if_pos c1]
        · rw [if_neg c1, if_neg c1]
          by_cases c2 : atL caps i = 0
          · rw [if_pos c2, if_pos c2]
          · rw [if_neg c2, if_neg c2]
    · exact base i (by omega)

theorem caps_get (most : List Int) (n j : Nat) (h : j < n) : ((capsOf most n).map (·.2)).getD j 0 = atL most j := by
  simp [capsOf, List.getD, h]
theorem law_j1 (ws most : List Int) (len least : Int) (hn : ws.length ≤ 40) (hw : ∀ x ∈ ws, 0 ≤ x ∧ x ≤ 300) (hl : 0 ≤ len ∧ len ≤ 3000) (b : Bool) (hm : b = false → 0 ≤ least ∧ least ≤ 3000) : Ev (fun k => laws_FnGrownCaps.j1 k ws most len least b) true := by
  cases b with
  | true =>
    refine Ev.step (f := fun _ => some true) (fun k => ?_) (Ev.now _)
    simp only [laws_FnGrownCaps.j1]
    rw [if_pos trivial]
  | false =>
    obtain ⟨hm1, hm2⟩ := hm rfl
    have hf : impl_Grown.f ws most len least = some (growOut ((capsOf most ws.length).map (·.2)) (least - len).toNat ws (least - len)) := by
      unfold impl_Grown.f
      rw [if_pos ⟨by omega, by omega, by omega, fun x hx => by have := hw x hx; omega⟩]
    have hcl : ws.length = ((capsOf most ws.length).map (·.2)).length := by simp [capsOf_len]
    obtain ⟨h1, h2⟩ := out_get ((capsOf most ws.length).map (·.2)) (least - len).toNat ws (least - len) hcl (Nat.le_refl _)
    have hlen := growOut_len ((capsOf most ws.length).map (·.2)) (least - len).toNat ws (least - len) hcl
    generalize growOut ((capsOf most ws.length).map (·.2)) (least - len).toNat ws (least - len) = got at *
    have hg : grew got ws ws.length = got.sum - ws.sum := by
      unfold grew
      rw [List.take_of_length_le (by omega), List.take_of_length_le (by omega)]
    have hw' : ∀ j < ws.length, 0 ≤ ws.getD j 0 ∧ ws.getD j 0 ≤ 1000000 := by
      intro j hj
      have : ws.getD j 0 = ws[j] := by simp [List.getD, hj]
      rw [this]
      have := hw _ (List.getElem_mem hj)
      omega
    have key := loop_ev ws most got len least hlen (by omega) hw' (fun j hj => (h1 j hj).1) (fun j hj hc => by
      have := (h1 j hj).2
      rw [caps_get most ws.length j hj] at this
      exact this hc) (by omega) (by
      rw [hg]
      rcases h2 with h | ⟨h, hc⟩
      · exact Or.inl h
      · refine Or.inr ⟨h, fun j hj => ?_⟩
        have := hc j hj
        rw [caps_get most ws.length j hj] at this
        exact this) ws.length 0 (by omega) (by omega)
    have h00 : grew got ws 0 = 0 := by simp [grew]
    rw [h00] at key
    refine Ev.step (f := fun k => laws_FnGrownCaps.l0 k ws most len least got 0 false 0) (fun k => ?_) key
    simp only [laws_FnGrownCaps.j1]
    rw [if_neg (by decide), hf]
    simp only [Option.bind_some]
    rw [if_pos (by omega)]
theorem law_t (ws most : List Int) (len least : Int) : Ev (fun k => laws_FnGrownCaps.j1 k ws most len least true) true := by
  refine Ev.step (f := fun _ => some true) (fun k => ?_) (Ev.now _)
  simp only [laws_FnGrownCaps.j1]
  rw [if_pos trivial]
theorem law_j0 (ws most : List Int) (hl : ws.length ≤ 1000000000000000) (hl2 : most.length ≤ 1000000000000000) (len least : Int) (b : Bool) : Ev (fun k => laws_FnGrownCaps.j0 k ws most len least b) true := by
  cases b with
  | true =>
    refine Ev.step (f := fun _ => some true) (fun k => ?_) (Ev.now _)
    simp only [laws_FnGrownCaps.j0]
    rw [if_pos trivial]
  | false =>
    obtain ⟨b1, hb1, g1⟩ := fits_ev ws 40 0 300 hl
    obtain ⟨b2, hb2, g2⟩ := fits_ev most 60 0 500 hl2
    have e2 : Ev (fun k => if b2 = true then (if len < 0 then (laws_FnGrownCaps.j1 k ws most len least true) else (if len > 3000 then (laws_FnGrownCaps.j1 k ws most len least true) else (if least < 0 then (laws_FnGrownCaps.j1 k ws most len least true) else (laws_FnGrownCaps.j1 k ws most len least (decide (least > 3000)))))) else (laws_FnGrownCaps.j1 k ws most len least true)) true ∨ b1 = false := by
      cases b1 with
      | false => exact Or.inr rfl
      | true =>
        left
        obtain ⟨hn, hw⟩ := g1 rfl
        cases b2 with
        | false => exact Ev.congr (fun k => by rw [if_neg (by decide)]) (law_t ws most len least)
        | true =>
          by_cases c1 : len < 0
          · exact Ev.congr (fun k => by rw [if_pos rfl, if_pos c1]) (law_t ws most len least)
          by_cases c2 : len > 3000
          · exact Ev.congr (fun k => by rw [if_pos rfl, if_neg c1, if_pos c2]) (law_t ws most len least)
          by_cases c3 : least < 0
          · exact Ev.congr (fun k => by rw [if_pos rfl, if_neg c1, if_neg c2, if_pos c3]) (law_t ws most len least)
          exact Ev.congr (fun k => by rw [if_pos rfl, if_neg c1, if_neg c2, if_neg c3]) (law_j1 ws most len least (by omega) hw (by omega) _ (fun h => by have := of_decide_eq_false h; omega))
    have e1 : Ev (fun k => if b1 = true then ((laws_fits.f k most 60 0 500).bind fun t106 => (if t106 = true then (if len < 0 then (laws_FnGrownCaps.j1 k ws most len least true) else (if len > 3000 then (laws_FnGrownCaps.j1 k ws most len least true) else (if least < 0 then (laws_FnGrownCaps.j1 k ws most len least true) else (laws_FnGrownCaps.j1 k ws most len least (decide (least > 3000)))))) else (laws_FnGrownCaps.j1 k ws most len least true))) else (laws_FnGrownCaps.j1 k ws most len least true)) true := by
      cases b1 with
      | false => exact Ev.congr (fun k => by rw [if_neg (by decide)]) (law_t ws most len least)
      | true =>
        rcases e2 with e2 | e2
        · exact Ev.congr (fun k => by rw [if_pos rfl]) (Ev.bind (f := fun k t106 => (if t106 = true then (if len < 0 then (laws_FnGrownCaps.j1 k ws most len least true) else (if len > 3000 then (laws_FnGrownCaps.j1 k ws most len least true) else (if least < 0 then (laws_FnGrownCaps.j1 k ws most len least true) else (laws_FnGrownCaps.j1 k ws most len least (decide (least > 3000)))))) else (laws_FnGrownCaps.j1 k ws most len least true))) hb2 e2)
        · cases e2
    refine Ev.step (fun k => ?_) (Ev.bind (f := fun k t105 => if t105 = true then ((laws_fits.f k most 60 0 500).bind fun t106 => (if t106 = true then (if len < 0 then (laws_FnGrownCaps.j1 k ws most len least true) else (if len > 3000 then (laws_FnGrownCaps.j1 k ws most len least true) else (if least < 0 then (laws_FnGrownCaps.j1 k ws most len least true) else (laws_FnGrownCaps.j1 k ws most len least (decide (least > 3000)))))) else (laws_FnGrownCaps.j1 k ws most len least true))) else (laws_FnGrownCaps.j1 k ws most len least true)) hb1 e1)
    simp only [laws_FnGrownCaps.j0]
    rw [if_neg (by decide)]
theorem FnGrownCaps : laws_FnGrownCaps.Pure := by
  intro l0 l1 a2 a3 _ h1 _ _ h2 _ _ _
  have e : Ev (fun k => laws_FnGrownCaps.f k l0 l1 a2 a3) true := by
    unfold laws_FnGrownCaps.f
    by_cases c : (l0.length : Int) > 2147483647
    · exact Ev.congr (fun k => by rw [if_pos c]) (law_j0 l0 l1 (by omega) (by omega) a2 a3 true)
    · exact Ev.congr (fun k => by rw [if_neg c]) (law_j0 l0 l1 (by omega) (by omega) a2 a3 _)
  exact e.rounds
end Go.Proofs.Ytedknmaaaaomoaa.Pure
