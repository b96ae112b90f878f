/- The cache: what is told of entries that went; the oldest one is removed. -/
import Derived.Test.YtjncpidadcfncaaHandCacheB
import Derived.StillTailTactics
namespace Go.Proofs.Ytjncpidadcfncaa.Hand
open Go.RowKit Go.Proofs.YtjncpidadcfncaaW.PrintWords Go.Proofs.Ytjncpidadcfncaa.Base
open Go.Maps (Keyed)
set_option linter.unusedVariables false
set_option linter.unusedSimpArgs false

/-- Pairs of numbers, whichever. -/
def kPr : Kd Unit where
  sz := 2
  E := []
  K := fun _ _ cs => ∃ a b : Int, cs = [.int .i64 a, .int .i64 b]
  M := fun _ _ _ _ cs => ∃ a b : Int, cs = [.int .i64 a, .int .i64 b]
  K_len := fun h => by obtain ⟨a, b, rfl⟩ := h; rfl
  K_one := fun h u hu => by
    obtain ⟨a, b, rfl⟩ := h
    simp only [List.mem_cons, List.not_mem_nil, or_false] at hu
    rcases hu with rfl | rfl <;> rfl
  K_below := fun _ h => h
  K_of_M := fun h => h
  M_mono := fun _ h => h
  M_bound := fun h => h
  M_move := fun _ h => h
  M_lower := fun _ h => h
theorem infoPr : (Try.prog.info? 37).map (fun i => (i.zero, i.size, i.bytes)) = some (some (.agg #[.int .i64 0, .int .i64 0]), 2, 16) := by kernel_rfl

/-- What has been told: so many. -/
def GoneAt (w : World) (base g γ : Nat) : Prop :=
  base ≤ g ∧ ∃ v xs, xs.length = γ ∧ w.heap[g]? = some (.cells #[v] 30 (0, 0)) ∧ kPr.R 37 w base (fun _ => True) v xs
abbrev tG : List TypeId := [30, 37]
theorem ne_g : (37 : TypeId) ≠ 30 := by decide
theorem GoneAt.keep {w w' : World} {base g γ : Nat} (h : GoneAt w base g γ) {P : Obj → Prop} (K : Keep P w w') (h1 : ∀ cs, P (.cells cs 30 (0, 0))) (h2 : ∀ cs, P (.cells cs 37 (0, 0))) : GoneAt w' base g γ := by
  obtain ⟨hb, v, xs, hl, hg, hr⟩ := h
  refine ⟨hb, v, xs, hl, K _ _ hg (h1 _), Kd.R_mono (Kd.R_move (Kd.R_bound hr) (fun k hk => ?_)) (fun _ hk => trivial)⟩
  obtain ⟨_, _, _, q, hq, cells, hc⟩ := hk
  have : q = 37 := by simpa [kPr] using hq
  subst this
  rw [hc]
  exact K _ _ hc (h2 _)

set_option maxHeartbeats 4000000 in
set_option maxRecDepth 100000 in
theorem told_ (w : World) (base g γ : Nat) (a b : Int) (H : GoneAt w base g γ) (hγ : γ ≤ 1000000) :
    Calls Try.prog 8 #[.int .i64 a, .int .i64 b, .pointer (some ⟨g, 0, none⟩)] w fun r w' => r = .returned (.tuple #[]) ∧ GoneAt w' base g (γ + 1) ∧ Keep (offT tG) w w' ∧ Below base w w' := by
  obtain ⟨hb, v, xs, hl, hg, hr⟩ := H
  have c0 : w.cell? ⟨g, 0, none⟩ = some v := by rw [blk_cell hg]; rfl
  have hbs : base ≤ w.heap.size := by have := blk_lt hg; omega
  have hn : (xs.length + 1) * 16 ≤ 140737488355328 := by omega
  have HR := Aside0.mk hr
  have HG := Aside0.mk hg
  have HL := Aside0.mk hl
  have HN := Aside0.mk hn
  clear hr hg hl hn
  go_enter Try.func8, Try.ntmps8
  go_wp2_with (first
    | ((with_reducible refine gate_builtin (b := .append) (xs := #[.tmp 5, .tmp 9]) rfl ?_); at_builtin; refine Kd.R_append (d := kPr) (w0 := w) (W := w) base (by rfl) (.tmp 5) (.tmp 9) 30 37 (.agg #[.int .i64 0, .int .i64 0]) 16 (by rfl) Try.underlying30 infoPr (by rfl) (by decide) (by decide) v xs () [.int .i64 a, .int .i64 b] (fun _ => True) (fun _ => False) (by rfl) (by rfl) ⟨a, b, rfl⟩ (fun _ hk => hk.elim) (fun _ _ => trivial) HR.out (Below.refl _ _) hbs HN.out ?_; intro v2 w2 ho hb2 hgr hat; obtain ⟨A2, q2, rfl⟩ := Kd.R_slice ho; have R2 := Aside0.mk ho; have B2 := Aside0.mk hb2; have G2 := Aside0.mk hgr; have ff := blk_frozen (blk_grown HG.out hgr (Kd.R_ne HR.out HG.out ne_g)) 0; have cc : w2.cell? ⟨g, 0, none⟩ = some v := (blk_cell (blk_grown HG.out hgr (Kd.R_ne HR.out HG.out ne_g)) 0).trans (by rfl); clear ho hb2 hgr hat c0))
  go_end0
  have hg2 := blk_grown HG.out G2.out (Kd.R_ne HR.out HG.out ne_g)
  have R3 := R2.out
  rw [show (xs ++ [()]).length = xs.length + 1 by simp] at R3
  refine ⟨rfl, ⟨hb, _, xs ++ [()], by simp [HL.out], blk_put hg2 0 _ rfl, Kd.R_set R3 hg2 (fun q hq => (show q = 37 by simpa [kPr] using hq) ▸ ne_g) 0 _⟩, fun x o hx ho => ?_, B2.out.setCell hb _⟩
  by_cases hxg : x = g
  · subst hxg
    rw [HG.out] at hx
    cases hx
    exact absurd (by simp) ho
  · refine (Below.heap_setCell _ _ _ _ hxg).trans ((G2.out.block x (blk_lt hx) (fun e => ?_)).trans hx)
    obtain ⟨inner, hown⟩ := Kd.R_own HR.out
    obtain ⟨cells, hc⟩ := own_typed hown x e.symm
    rw [hc] at hx
    cases hx
    exact absurd (by simp) ho

def fnV (g : Nat) : Value := .func (.func 8) #[] #[.pointer (some ⟨g, 0, none⟩)]
/-- The cache: its line, its map, what has been told. -/
structure CacheAt (w : World) (base c g n M γ : Nat) (L : List Ent) : Prop where
  dll : Dll w base c (n : Int) M (fnV g) L
  map : MapOf w M L
  bm : base ≤ M
  gone : GoneAt w base g γ
  cap : L.length ≤ n
  nb : n ≤ 1000
abbrev tA : List TypeId := [52, 55, 30, 37]
theorem keepL_A {w w' : World} (h : Keep (offT tL) w w') : Keep (offM tA) w w' := h.mono (offM_offT (by decide))
theorem keepG_A {w w' : World} (h : Keep (offT tG) w w') : Keep (offM tA) w w' := h.mono (offM_offT (by decide))
theorem turned_keep {w w' : World} {M : Nat} (h : w.mapTurned w' M) : Keep (offM []) w w' := by
  intro b o hb ho
  by_cases e : b = M
  · subst e
    obtain ⟨es, ck, es', ck', hm, _⟩ := h
    rw [hm] at hb
    cases hb
    exact ho.elim
  · exact (h.grown.block b (blk_lt hb) (by simpa using e)).trans hb
theorem keepM_A {w w' : World} (h : Keep (offM []) w w') : Keep (offM tA) w w' := h.mono (offM_mono (by decide))
theorem turned_below {w w' : World} {M base : Nat} (h : w.mapTurned w' M) (hM : base ≤ M) : Below base w w' := by
  have hg := h.grown
  exact ⟨hg.os, hg.tape, hg.output, hg.size, fun k hk => hg.block k (by
    obtain ⟨es, ck, _, _, hm, _⟩ := h
    have := blk_lt hm
    omega) (by simp; omega)⟩
theorem MapOf.keep {w w' : World} {M : Nat} {L : List Ent} (h : MapOf w M L) {P : Obj → Prop} (K : Keep P w w') (hP : ∀ es ck, P (.map es ck)) : MapOf w' M L := by
  obtain ⟨es, ck, hb⟩ := h.blk
  exact h.kept ((K _ _ hb (hP _ _)).trans hb.symm)
theorem drew_keep (P : Obj → Prop) (w : World) : Keep P w w.drew := fun _ _ h _ => h
theorem drew_below (base : Nat) (w : World) : Below base w w.drew := ⟨rfl, rfl, rfl, Nat.le_refl _, fun _ _ => rfl⟩
theorem CacheAt.drew {w : World} {base c g n M γ : Nat} {L : List Ent} (h : CacheAt w base c g n M γ L) : CacheAt w.drew base c g n M γ L :=
  ⟨h.dll.keep (drew_keep (offT []) w) (by simp [offT]) (by simp [offT]), h.map.keep (drew_keep (offT []) w) (by simp [offT]), h.bm, h.gone.keep (drew_keep (offT []) w) (by simp [offT]) (by simp [offT]), h.cap, h.nb⟩

/-- Removing the oldest of none does nothing. -/
theorem removeOldest_none (w : World) (base c g n M γ : Nat) (H : CacheAt w base c g n M γ []) :
    Calls Try.prog 20 #[.pointer (some ⟨c, 0, none⟩)] w fun r w' => r = .returned (.tuple #[]) ∧ w' = w := by
  obtain ⟨h, m, hb⟩ := H.dll.blk
  have c3 : w.cell? ⟨c, 3, none⟩ = some (.pointer none) := by rw [blk_cell hb]; rfl
  clear H hb
  go_enter Try.func20, Try.ntmps20
  go_wp2
  refine bodyPost_ret (results_none rfl _ _ _) rfl ?_
  exact ⟨rfl, rfl⟩

theorem fn_neq (w : World) (g : Nat) : (binOp .neq 48 (.func (.func 8) #[] #[.pointer (some ⟨g, 0, none⟩)]) .nilFunc).run Try.prog w = .ok (.bool true) w := by kernel_rfl
set_option maxHeartbeats 4000000 in
set_option maxRecDepth 100000 in
theorem removeOldest_ (w : World) (base c g n M γ : Nat) (A : List Ent) (x : Ent) (H : CacheAt w base c g n M γ (A ++ [x])) (hγ : γ ≤ 1000000) :
    Calls Try.prog 20 #[.pointer (some ⟨c, 0, none⟩)] w fun r w' => r = .returned (.tuple #[]) ∧ CacheAt w' base c g n M (γ + 1) A ∧ Keep (offM tA) w w' ∧ Below base w w' := by
  obtain ⟨h, m, hb⟩ := H.dll.blk
  rw [lastB_snoc] at hb
  obtain ⟨ex1, ex2, hx⟩ := seg_mem H.dll.seg x (by simp)
  have c3 : w.cell? ⟨c, 3, none⟩ = some (.pointer (some ⟨x.1, 0, none⟩)) := by rw [blk_cell hb]; rfl
  have c4 : w.cell? ⟨c, 4, none⟩ = some (.func (.func 8) #[] #[.pointer (some ⟨g, 0, none⟩)]) := by rw [blk_cell hb]; rfl
  have x0 : w.cell? ⟨x.1, 0, none⟩ = some (.int .i64 x.2.1) := by rw [blk_cell hx]; rfl
  have x1 : w.cell? ⟨x.1, 1, none⟩ = some (.int .i64 x.2.2) := by rw [blk_cell hx]; rfl
  have HH := Aside0.mk H
  have hfn := fn_neq w g
  clear H hb hx
  go_enter Try.func20, Try.ntmps20
  go_wp2
  go_still_tail 12, (by kernel_rfl)
  change wpList _ _ _ _ _ w.drew
  have H1 := Aside0.mk HH.out.drew
  have K1 := Aside0.mk (drew_keep (offM tA) w)
  have B1 := Aside0.mk (drew_below base w)
  clear HH hfn c3 c4 x0 x1
  generalize w.drew = w1 at H1 K1 B1 ⊢
  go_wp2_with fail
  refine (told_ w1 base g γ x.2.1 x.2.2 H1.out.gone hγ).mono ?_
  rintro e w2 ⟨rfl, hg2, hk2, hb2⟩
  have D2 := Aside0.mk (H1.out.dll.keep hk2 (by simp [offT]) (by simp [offT]))
  have M2 := Aside0.mk (H1.out.map.keep hk2 (by simp [offT]))
  have G2 := Aside0.mk hg2
  have K2 := Aside0.mk (K1.out.trans (keepG_A hk2))
  have B2 := Aside0.mk (B1.out.trans hb2)
  have HB := Aside0.mk (And.intro H1.out.bm (And.intro H1.out.cap H1.out.nb))
  clear hg2 hk2 hb2 H1 K1 B1
  go_upto_region 5 with (go_at_call 22; refine (removeNode_ w2 base c n M (fnV g) A [] x D2.out).mono ?_; rintro e w3 ⟨rfl, hd, ho, hk, hb⟩; have D3 := Aside0.mk hd; have O3 := Aside0.mk ho; have K3 := Aside0.mk (K2.out.trans (keepL_A hk)); have B3 := Aside0.mk (B2.out.trans hb); have M3 := Aside0.mk (M2.out.keep hk (by simp [offT])); have G3 := Aside0.mk (G2.out.keep hk (by simp [offT]) (by simp [offT])); clear hd ho hk hb)
  rw [List.append_nil] at D3
  obtain ⟨h3, m3, hb3⟩ := D3.out.blk
  obtain ⟨ex3, ex4, hx3⟩ := O3.out.blk
  have c1 : w3.cell? ⟨c, 1, none⟩ = some (.map (some M)) := by rw [blk_cell hb3]; rfl
  have x0 : w3.cell? ⟨x.1, 0, none⟩ = some (.int .i64 x.2.1) := by rw [blk_cell hx3]; rfl
  clear hb3 hx3 D2 M2 G2 K2 B2 O3
  go_still_tail 8, (by kernel_rfl)
  change wpList _ _ _ _ _ w3.drew
  have D4 := Aside0.mk (D3.out.keep (drew_keep (offT []) w3) (by simp [offT]) (by simp [offT]))
  have G4 := Aside0.mk (G3.out.keep (drew_keep (offT []) w3) (by simp [offT]) (by simp [offT]))
  have M4 := Aside0.mk (M3.out.keep (drew_keep (offT []) w3) (by simp [offT]))
  have K4 := Aside0.mk (K3.out.trans (drew_keep _ w3))
  have B4 := Aside0.mk (B3.out.trans (drew_below base w3))
  clear D3 G3 M3 K3 B3 c1 x0
  generalize w3.drew = w4 at D4 G4 M4 K4 B4 ⊢
  obtain ⟨w5, hrun, hm5, ht5⟩ := M4.out.del (A := A) (B := []) (x := x) 0
  rw [List.append_nil] at hm5
  have M5 := Aside0.mk hm5
  have K5 := Aside0.mk (turned_keep ht5)
  have B5 := Aside0.mk (B4.out.trans (turned_below ht5 HB.out.1))
  clear hm5 ht5
  go_wp2
  go_end0
  have hcap := HB.out.2.1
  exact ⟨rfl, ⟨D4.out.keep K5.out (by simp [offM]) (by simp [offM]), M5.out, HB.out.1, G4.out.keep K5.out (by simp [offM]) (by simp [offM]), by simp at hcap; omega, HB.out.2.2⟩, K4.out.trans (keepM_A K5.out), B5.out⟩
end Go.Proofs.Ytjncpidadcfncaa.Hand
