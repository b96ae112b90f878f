/- append of a row that may be empty to an empty row, as a step of a region that draws. -/
import Derived.Test.YtedknmaaaaomoaaHandCols
import Derived.Deep.AppendLies
import Derived.Deep.RegionLaw
namespace Go.Proofs.Ytedknmaaaaomoaa.Hand
open Go.RowKit Go.Proofs.YtedknmaaaaomoaaW.PrintWords Go.Proofs.Ytedknmaaaaomoaa.Base
set_option linter.unusedVariables false
set_option linter.unusedSimpArgs false

theorem info3 : (Try.prog.info? 3).map (fun i => (i.zero, i.size, i.bytes)) = some (some (.int .i64 0), 1, 8) := by kernel_rfl
theorem step_app {ops : Array Oper} {o : Oper} {a : Act} {w : World} {K : Act → World → Prop} {Q : Exit → Act → World → Prop} {E : Prop} (hgd : o.guard = none)
    (ho : o.op = .call { callee := .builtin .append, args := #[.tmp 13, .tmp 14], argTypes := #[22, 22] }) (base g0 c0 : Nat) (A0 : Option Addr) (ws : List Int)
    (hs : a.eval (.tmp 13) = .slice (some ⟨g0, 0, none⟩) 0 0) (hx : a.eval (.tmp 14) = .slice A0 ws.length c0) (hown : w.ownsRow base 3 1 (.slice (some ⟨g0, 0, none⟩) 0 0) 0 [])
    (hC : Kd.C (Kd.int .i64) w A0 ws.length ws) (hn : ws.length ≤ 1000000) (hbase : base ≤ w.heap.size)
    (h : ∀ g cap w', w'.ownsRow base 3 1 (.slice (some ⟨g, 0, none⟩) ws.length cap) ws.length (ws.map (Value.int .i64)) → w.grownBy w' (some g0) → K (a.put o.dst (.slice (some ⟨g, 0, none⟩) ws.length cap)) w') :
    if Region.wanted o (yielded ops a.tmps) = true then Oper.wp Try.prog o a w K Q else E := by
  obtain ⟨i0, hi0, hz0, hz1, hz2⟩ := info_parts info3
  by_cases hp : 0 < ws.length
  · obtain ⟨ad, _, had, _⟩ := Kd.C_get hC 0 0 (by omega) (by omega)
    subst had
    have hA : ∀ (j : Nat) u, (ws.map (Value.int .i64))[j]? = some u → w.cell? (ad.add j) = some u := by
      intro j u hj
      have hj' : j < ws.length := by
        rcases Nat.lt_or_ge j ws.length with h | h
        · exact h
        · rw [List.getElem?_eq_none (by simpa using h)] at hj; cases hj
      obtain ⟨ad2, cs, e, _, hK, hc⟩ := Kd.C_get hC 0 (j : Int) (by omega) (by omega)
      cases e
      have hK : cs = [Value.int .i64 (ws.getD (j : Int).toNat 0)] := hK
      have h2 := hc 0 _ (by rw [hK]; rfl)
      rw [List.getElem?_map, List.getElem?_eq_getElem hj'] at hj
      have hu : u = Value.int .i64 (ws.getD (j : Int).toNat 0) := by
        rw [← Option.some.inj hj]
        simp [List.getD, hj']
      rw [hu]
      have e1 : (j : Int).toNat * (Kd.int IntKind.i64).sz + 0 = j := by simp [Kd.int, Kd.scalar]
      rw [e1] at h2
      exact h2
    refine step_append_lies (w := w) (hgd := hgd) (s := .tmp 13) (x := .tmp 14) (t := 22) (ho := ho) (base := base) (e := 3) (i := i0) (z := .int .i64 0) (size := 1) (bytes := 8) (ht := Try.underlying22) (hi := hi0) (hz := hz0) (hsize := hz1) (hby := hz2) (hzs := by rfl) (hsz := by decide) (v := _) (n := 0) (xs := []) (hs := hs) (hown := hown) (ad := ad) (m := ws.length) (c := c0) (news := ws.map (Value.int .i64)) (hx := hx) (hl := by simp) (hnews := hA) (h1 := ?_) (hm := hp) (h63 := by unfold maxLen; omega) (hbytes := by omega) (hbase := hbase) (H := _) (hH := rfl) (h := ?_)
    · intro u hu
      simp only [List.mem_map] at hu
      obtain ⟨x, _, rfl⟩ := hu
      rfl
    · intro g cap w' h1 h2 _ _
      simp only [Nat.zero_add, List.nil_append] at h1 ⊢
      exact h g cap w' h1 h2
  · have hw0 : ws = [] := List.eq_nil_of_length_eq_zero (by omega)
    subst hw0
    have hw : Region.wanted o (yielded ops a.tmps) = true := by simp [Region.wanted, hgd]
    rw [if_pos hw]
    have hK := h g0 0 w hown ⟨rfl, rfl, rfl, Nat.le_refl _, fun _ _ _ => rfl⟩
    unfold Oper.wp execOp
    simp only [List.length_nil] at hx hK
    simp only [ho, resolve, invoke, builtin, Sem.run_bind, Sem.run_pure, Result.andThen_ok, List.map_toArray, List.map_cons, List.map_nil, hs, hx]
    clear hs hx
    cases A0 <;> simp [go_sem] <;> exact hK
end Go.Proofs.Ytedknmaaaaomoaa.Hand
