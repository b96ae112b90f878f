/- A caption with a text, a spot, an alignment or a width is another one, and the one that it was made of stays: at most twenty changes. -/
import Derived.Test.YtimefacdnabkdabPFnCaptionx3
import Derived.Test.YtimefacdnabkdabBase
namespace Go.Proofs.Ytimefacdnabkdab.Pure
open Go.RowKit Go.Proofs.Ytimefacdnabkdab.PFnCaption Go.Proofs.YtimefacdnabkdabW.PrintWords Go.Proofs.YtimefacdnabkdabW.PrintLast Go.Proofs.YtimefacdnabkdabW.PrintMore
open Go.Proofs.Ytimefacdnabkdab.Base

/-- A caption. -/
structure Cap where
  t : ByteArray
  s : Int
  a : ByteArray
  w : Int
def capStep (d : Cap) (c : Cap) (q : Int) : Cap := if q = 0 then { c with t := d.t } else if q = 1 then { c with s := d.s } else if q = 2 then { c with a := d.a } else if q = 3 then { c with w := d.w } else c

theorem cap_impl (d c : Cap) (l : List Int) (hl : l.length ≤ 1000) : ∀ (r p : List Int) (s : Cap), l = p ++ r →
    Ev (fun k => impl_TwCaptionWith.l0 k l (l.length : Int) (p.length : Int) d.t d.s d.a d.w c.t c.s c.a c.w s.t s.s s.a s.w)
      (let z := r.foldl (capStep d) s; (z.t, z.s, z.a, z.w, c.t, c.s, c.a, c.w)) := by
  intro r
  induction r with
  | nil =>
    intro p s hp
    refine Ev.step (f := fun _ => some _) (fun k => ?_) (Ev.now _)
    simp only [impl_TwCaptionWith.l0]
    rw [if_neg (by rw [hp]; simp)]
    rfl
  | cons q r ih =>
    intro p s hp
    have hlen : l.length = p.length + r.length + 1 := by rw [hp]; simp; omega
    have key := ih (p ++ [q]) (capStep d s q) (by rw [hp]; simp)
    refine Ev.step (f := fun k => impl_TwCaptionWith.l0 k l (l.length : Int) ((p ++ [q]).length : Int) d.t d.s d.a d.w c.t c.s c.a c.w (capStep d s q).t (capStep d s q).s (capStep d s q).a (capStep d s q).w) (fun k => ?_) key
    have e1 : wrap64 ((p.length : Int) + 1) = ((p ++ [q]).length : Int) := by rw [wrap64_id (by omega) (by omega)]; simp
    have e2 : rd l (p.length : Int) = q := by rw [hp]; simp [rd, List.getD]
    simp only [impl_TwCaptionWith.l0]
    rw [if_pos (by omega), if_pos (by omega), if_pos (by omega), e1, e2]
    unfold capStep
    by_cases h0 : q = 0
    · rw [if_pos h0, if_pos h0]; rfl
    · rw [if_neg h0, if_neg h0]
      by_cases h1 : q = 1
      · rw [if_pos h1, if_pos h1]; rfl
      · rw [if_neg h1, if_neg h1]
        by_cases h2 : q = 2
        · rw [if_pos h2, if_pos h2]; rfl
        · rw [if_neg h2, if_neg h2]
          by_cases h3 : q = 3
          · rw [if_pos h3, if_pos h3]; rfl
          · rw [if_neg h3, if_neg h3]

theorem cap_law (c d : Cap) (l : List Int) (hl : l.length ≤ 20) (hw : ∀ x ∈ l, (Lit.int .u8 x).wf = true) : ∀ (r p : List Int), l = p ++ r →
    Ev (fun k => laws_FnCaption.l0 k l (p.map (Int.tmod · 4)) (p.length : Int) c.t c.s c.a c.w d.t d.s d.a d.w
      ((p.map (Int.tmod · 4)).foldl (capStep d) c).t ((p.map (Int.tmod · 4)).foldl (capStep d) c).s ((p.map (Int.tmod · 4)).foldl (capStep d) c).a ((p.map (Int.tmod · 4)).foldl (capStep d) c).w) true := by
  intro r
  induction r with
  | nil =>
    intro p hp
    have himpl := cap_impl d c (p.map (Int.tmod · 4)) (by rw [hp] at hl; simp at hl ⊢; omega) (p.map (Int.tmod · 4)) [] c rfl
    generalize (p.map (Int.tmod · 4)) = m at *
    generalize hz : m.foldl (capStep d) c = z at *
    refine Ev.step (f := fun k => (impl_TwCaptionWith.l0 k m (m.length : Int) 0 d.t d.s d.a d.w c.t c.s c.a c.w c.t c.s c.a c.w).bind fun bt138 => (if (bt138.1.toList == z.t.toList && (bt138.2.1 == z.s && (bt138.2.2.1.toList == z.a.toList && (bt138.2.2.2.1 == z.w)))) = true then (some (bt138.2.2.2.2.1.toList == c.t.toList && (bt138.2.2.2.2.2.1 == c.s && (bt138.2.2.2.2.2.2.1.toList == c.a.toList && (bt138.2.2.2.2.2.2.2 == c.w))))) else (some false))) (fun k => ?_) ?_
    · simp only [laws_FnCaption.l0]
      rw [if_neg (by rw [hp]; simp)]
      rfl
    · refine Ev.bind himpl ?_
      refine Ev.congr (f := fun _ => some true) (fun k => ?_) (Ev.now _)
      simp
  | cons q r ih =>
    intro p hp
    have hlen : l.length = p.length + r.length + 1 := by rw [hp]; simp; omega
    have key := ih (p ++ [q]) (by rw [hp]; simp)
    have hq := hw q (by rw [hp]; simp)
    have hq' : 0 ≤ q ∧ q ≤ 255 := wf_u8 hq
    have e1 : wrap64 ((p.length : Int) + 1) = ((p ++ [q]).length : Int) := by rw [wrap64_id (by omega) (by omega)]; simp
    have e2 : rd l (p.length : Int) = q := by rw [hp]; simp [rd, List.getD]
    have e3 : (p ++ [q]).map (Int.tmod · 4) = p.map (Int.tmod · 4) ++ [Int.tmod q 4] := by simp
    have e4 : ((p ++ [q]).map (Int.tmod · 4)).foldl (capStep d) c = capStep d ((p.map (Int.tmod · 4)).foldl (capStep d) c) (Int.tmod q 4) := by rw [e3, List.foldl_append]; rfl
    rw [e4, e3] at key
    have hlm : (p.map (Int.tmod · 4)).length < 17592186044416 := by rw [List.length_map]; omega
    generalize (p.map (Int.tmod · 4)) = m at *
    generalize m.foldl (capStep d) c = z at *
    refine Ev.step (f := fun k => laws_FnCaption.l0 k l (m ++ [Int.tmod q 4]) ((p ++ [q]).length : Int) c.t c.s c.a c.w d.t d.s d.a d.w (capStep d z (Int.tmod q 4)).t (capStep d z (Int.tmod q 4)).s (capStep d z (Int.tmod q 4)).a (capStep d z (Int.tmod q 4)).w) (fun k => ?_) key
    simp only [laws_FnCaption.l0]
    rw [if_pos (by omega), if_pos (by omega), if_pos hlm, e1, e2, wrap64_id (by omega) (by omega)]
    simp only [Option.bind_some]
    unfold capStep
    by_cases h0 : Int.tmod q 4 = 0
    · rw [if_pos h0, if_pos h0]
    · rw [if_neg h0, if_neg h0]
      by_cases h1 : Int.tmod q 4 = 1
      · rw [if_pos h1, if_pos h1]
      · rw [if_neg h1, if_neg h1]
        by_cases h2 : Int.tmod q 4 = 2
        · rw [if_pos h2, if_pos h2]
        · rw [if_neg h2, if_neg h2]
          by_cases h3 : Int.tmod q 4 = 3
          · rw [if_pos h3, if_pos h3]
          · rw [if_neg h3, if_neg h3]

theorem FnCaption : laws_FnCaption.Pure := by
  intro a0 a1 a2 a3 b0 b1 b2 b3 l _ _ _ _ _ _ _ _ ⟨hl, _, hw⟩
  have hj : ∀ e : Bool, (e = true ∨ l.length ≤ 20) → Ev (fun k => laws_FnCaption.j0 k l e a0 a1 a2 a3 b0 b1 b2 b3) true := by
    intro e he
    by_cases h1 : e = true
    · refine Ev.step (f := fun _ => some true) (fun k => ?_) (Ev.now _)
      simp only [laws_FnCaption.j0]
      rw [if_pos h1]
    · have h20 : l.length ≤ 20 := by rcases he with he | he; exact absurd he h1; exact he
      refine Ev.step (f := fun k => laws_FnCaption.l0 k l [] 0 a0 a1 a2 a3 b0 b1 b2 b3 a0 a1 a2 a3) (fun k => ?_) (cap_law ⟨a0, a1, a2, a3⟩ ⟨b0, b1, b2, b3⟩ l h20 hw l [] rfl)
      simp only [laws_FnCaption.j0]
      rw [if_neg h1, if_neg (by omega)]
  have hj' : ∀ e : Bool, Ev (fun k => laws_FnCaption.j0 k l e a0 a1 a2 a3 b0 b1 b2 b3) true := by
    intro e
    by_cases h20 : l.length ≤ 20
    · exact hj e (.inr h20)
    · by_cases h1 : e = true
      · exact hj e (.inl h1)
      · refine Ev.step (f := fun _ => some true) (fun k => ?_) (Ev.now _)
        simp only [laws_FnCaption.j0]
        rw [if_neg h1, if_pos (by omega)]
  have hz : ∀ (x0 : ByteArray) (x1 : Int) (x2 : ByteArray) (x3 : Int), ∃ b, laws_zzFits26.f x0 x1 x2 x3 = some b := by
    intro x0 x1 x2 x3
    unfold laws_zzFits26.f
    split
    · exact ⟨_, rfl⟩
    · split <;> exact ⟨_, rfl⟩
  obtain ⟨ba, hba⟩ := hz a0 a1 a2 a3
  obtain ⟨bb, hbb⟩ := hz b0 b1 b2 b3
  have : Ev (fun k => laws_FnCaption.f k a0 a1 a2 a3 b0 b1 b2 b3 l) true := by
    unfold laws_FnCaption.f
    rw [hba, hbb]
    simp only [Option.bind_some]
    cases ba <;> cases bb <;> simp <;> exact hj' _
  exact this.rounds

end Go.Proofs.Ytimefacdnabkdab.Pure
