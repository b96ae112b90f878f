/- The cache: Purge. -/
import Derived.Test.YtjncpidadcfncaaHandCacheF
namespace Go.Proofs.Ytjncpidadcfncaa.Hand
open Go.RowKit Go.Proofs.YtjncpidadcfncaaW.PrintWords Go.Proofs.Ytjncpidadcfncaa.Base
open Go.Maps (Keyed)
set_option linter.unusedVariables false
set_option linter.unusedSimpArgs false

theorem ranges_moved {w w' : World} {M r n cnt : Nat} {D : DataW Unit} {left : Lit → Bool} (h : w.ranges Try.prog 3 rdE M r n D left cnt) (hM : w'.heap[M]? = w.heap[M]?) (hr : w'.heap[r]? = w.heap[r]?) : w'.ranges Try.prog 3 rdE M r n D left cnt := by
  obtain ⟨es, clock, since, seen, c0, hb, F, hs, hD, h2, rest⟩ := h
  exact ⟨es, clock, since, seen, c0, hM.trans hb, F, hs, hD, hr.trans h2, rest⟩
theorem ranges_keep {w w' : World} {M r n cnt : Nat} {D : DataW Unit} {left : Lit → Bool} (h : w.ranges Try.prog 3 rdE M r n D left cnt) {S : List TypeId} (K : Keep (offT S) w w') : w'.ranges Try.prog 3 rdE M r n D left cnt := by
  obtain ⟨es, clock, since, seen, c0, hb, F, hs, hD, h2, rest⟩ := h
  exact ⟨es, clock, since, seen, c0, K _ _ hb trivial, F, hs, hD, K _ _ h2 trivial, rest⟩
theorem ranges_iter {w : World} {M r n cnt : Nat} {D : DataW Unit} {left : Lit → Bool} (h : w.ranges Try.prog 3 rdE M r n D left cnt) : ∃ since seen c0, w.heap[r]? = some (.mapIter (some M) since seen c0) := by
  obtain ⟨es, clock, since, seen, c0, hb, F, hs, hD, h2, rest⟩ := h
  exact ⟨since, seen, c0, h2⟩
theorem next_keep {w w' : World} {M r n cnt : Nat} {D : DataW Unit} {left : Lit → Bool} (h : w.ranges Try.prog 3 rdE M r n D left cnt) (hg : w.grownBy w' (some r)) : Keep (offM []) w w' := by
  intro b o hb ho
  by_cases e : b = r
  · subst e
    obtain ⟨_, _, _, h2⟩ := ranges_iter h
    rw [h2] at hb
    cases hb
    exact ho.elim
  · exact (hg.block b (blk_lt hb) (by simpa using e)).trans hb
theorem grown_below {w w' : World} {base : Nat} {row : Option Nat} (hg : w.grownBy w' row) (hr : ∀ j, row = some j → base ≤ j) (hb : base ≤ w.heap.size) : Below base w w' :=
  ⟨hg.os, hg.tape, hg.output, hg.size, fun k hk => hg.block k (by omega) (fun e => by have := hr k e.symm; omega)⟩
theorem grown_keep {w w' : World} (P : Obj → Prop) (hg : w.grownBy w' none) : Keep P w w' := fun b o hb _ => (hg.block b (blk_lt hb) (by simp)).trans hb

theorem pE_inv_some {o : Option Nat} {b : Nat} (h : pE o = .pointer (some ⟨b, 0, none⟩)) : o = some b := by
  cases o with
  | none => simp [pE] at h
  | some b' => simp [pE] at h; rw [h]
/-- How many of the entries are still to come. -/
def leftN (L : List Ent) (left : Lit → Bool) : Nat := (L.filter fun x => left (.int .i64 x.2.1)).length
theorem leftN_all {L : List Ent} {left : Lit → Bool} (h : ∀ x ∈ L, left (.int .i64 x.2.1) = true) : leftN L left = L.length := by
  unfold leftN
  rw [List.filter_eq_self.2 h]
theorem leftN_none {L : List Ent} {left : Lit → Bool} (h : ∀ x ∈ L, left (.int .i64 x.2.1) = false) : leftN L left = 0 := by
  unfold leftN
  rw [List.filter_eq_nil_iff.2 (fun x hx => by rw [h x hx]; simp)]
  rfl
theorem sk_ne {a b : Int} (h : a ≠ b) : (Lit.int .i64 a).sameKey (.int .i64 b) = false := Maps.sameKey_ne (by intro e; injection e with _ e; exact h e)
theorem sk_self (a : Int) : (Lit.int .i64 a).sameKey (.int .i64 a) = true := WideAt.sameKey_self trivial
theorem leftN_strike {L : List Ent} {left : Lit → Bool} {ent : Ent} (hn : (L.map (·.2.1)).Nodup) (he : ent ∈ L) (hl : left (.int .i64 ent.2.1) = true) : leftN L (fun z => left z && !z.sameKey (.int .i64 ent.2.1)) + 1 = leftN L left := by
  unfold leftN
  dsimp only
  induction L with
  | nil => simp at he
  | cons y L ih =>
    rw [List.map_cons, List.nodup_cons] at hn
    by_cases e : y.2.1 = ent.2.1
    · have hne : ∀ x ∈ L, x.2.1 ≠ ent.2.1 := fun x hx e2 => hn.1 (List.mem_map.2 ⟨x, hx, e2.trans e.symm⟩)
      have h1 : (L.filter fun x => left (.int .i64 x.2.1) && !(Lit.int .i64 x.2.1).sameKey (.int .i64 ent.2.1)) = L.filter fun x => left (.int .i64 x.2.1) := by
        apply List.filter_congr
        intro x hx
        rw [sk_ne (hne x hx)]
        simp
      rw [List.filter_cons, List.filter_cons, h1, e, sk_self, hl]
      simp
    · rcases List.mem_cons.1 he with rfl | he
      · exact absurd rfl e
      · have := ih hn.2 he
        rw [List.filter_cons, List.filter_cons, sk_ne e]
        by_cases hy : left (.int .i64 y.2.1) = true
        · simp only [hy, Bool.not_false, Bool.and_self, if_true, List.length_cons]
          omega
        · simp only [Bool.not_eq_true] at hy
          simp only [hy, Bool.not_false, Bool.false_and, Bool.false_eq_true, if_false]
          exact this
set_option maxHeartbeats 8000000 in
set_option maxRecDepth 100000 in
theorem purge_ (w : World) (base c g n M γ : Nat) (L : List Ent) (H : CacheAt w base c g n M γ L) (hn : 1 ≤ n) (hγ : γ ≤ 100000) :
    Calls Try.prog 15 #[.pointer (some ⟨c, 0, none⟩)] w fun r w' => r = .returned (.tuple #[]) ∧ ∃ M' γ', CacheAt w' base c g n M' γ' [] ∧ γ' = γ + L.length ∧ Keep (offM tA) w w' ∧ Below base w w' := by
  obtain ⟨h, m, hb⟩ := H.dll.blk
  have c0 : w.cell? ⟨c, 0, none⟩ = some (.int .i64 (n : Int)) := by rw [blk_cell hb]; rfl
  have c1 : w.cell? ⟨c, 1, none⟩ = some (.map (some M)) := by rw [blk_cell hb]; rfl
  have c4 : w.cell? ⟨c, 4, none⟩ = some (.func (.func 8) #[] #[.pointer (some ⟨g, 0, none⟩)]) := by rw [blk_cell hb]; rfl
  have p1 : decide (n = 0) = false := decide_eq_false (by omega)
  have hfn := fn_neq w g
  obtain ⟨D, hown, htidy, hsz, hat, hno⟩ := H.map.own
  have HOWN := Aside0.mk hown
  have HAT := Aside0.mk hat
  have HNO := Aside0.mk hno
  have HSZ := Aside0.mk hsz
  have HH := Aside0.mk H
  clear H hb hown hat hno hsz htidy
  go_enter Try.func15, Try.ntmps15
  go_wp2_with ((at_range; refine wpList_range_own _ rfl _ 49 rfl 3 50 keyed3 Try.underlying49 rdE M L.length D rfl HOWN.out ?_; intro w0 hrg0 hg0 hs0))
  have R0 := Aside0.mk hrg0
  have K0 := Aside0.mk (grown_keep (offT []) hg0)
  have B0 := Aside0.mk (grown_below (base := base) hg0 (by simp) HH.out.dll.below_size)
  obtain ⟨r, hr⟩ : ∃ r, w.heap.size = r := ⟨_, rfl⟩
  have hbr : base ≤ r := by rw [← hr]; exact HH.out.dll.below_size
  rw [hr] at R0
  try rw [hr]
  clear hrg0 hg0 hs0 hr c0 c1 c4 hfn
  go_frame
  go_loopw [2] (fun _ wr => ∃ (left : Lit → Bool) (cnt γ' : Nat), wr.ranges Try.prog 3 rdE M r L.length D left cnt ∧ Aside0 (GoneAt wr base g γ') ∧ Aside0 (γ' + leftN L left = γ + L.length) ∧ Aside0 (Dll wr base c (n : Int) M (fnV g) L) ∧ Aside0 (Keep (offM tA) w wr) ∧ Aside0 (Below base w wr)) (fun _ wr => wr.rangeLeft M r)
  case atStart => exact ⟨_, _, γ, R0.out, ⟨HH.out.gone.keep K0.out (by simp [offT]) (by simp [offT])⟩, ⟨by rw [leftN_all (fun x hx => Maps.has_true_of_atKey (fun z => HAT.out x hx z))]⟩, ⟨HH.out.dll.keep K0.out (by simp [offT]) (by simp [offT])⟩, ⟨K0.out.mono (offM_offT (by simp))⟩, B0⟩
  case round =>
    clear R0 K0 B0
    obtain ⟨left, cnt, γ', hrg, G1, HG, D1, K1, B1⟩ := hrel
    have R1 := Aside0.mk hrg
    clear hrg
    go_wp2_with ((at_next; refine wpList_next_ranges _ rfl _ rfl 3 keyed3 rdE (Value.int .i64) pE (fun key kl hk => by obtain ⟨x, rfl, _⟩ := Maps.keyOf_int_inv Try.underlying3 hk; exact ⟨x, rfl⟩) (fun v y hv => by obtain ⟨o, rfl, _⟩ := rdE_inv hv; exact ⟨o, rfl⟩) M r L.length D left cnt rfl R1.out ?_ ?_))
    · intro hc0 hl0
      have HG0 : Aside0 (γ' = γ + L.length) := ⟨by have := HG.out; rw [leftN_none (fun x _ => hl0 _)] at this; omega⟩
      obtain ⟨h1, m1, hb1⟩ := D1.out.blk
      have c0 : wr.cell? ⟨c, 0, none⟩ = some (.int .i64 (n : Int)) := by rw [blk_cell hb1]; rfl
      have hmm : (Instr.makeMap 49 (some (.int .i64 (n : Int)))).run Try.prog wr = .ok (.map (some wr.heap.size)) (wr.alloc (.map #[] 0)) := by
        simp [Instr.makeMap, run_underlying Try.underlying49, asInt, asIntOf]
      have hb2 := blk_alloc hb1 (.map #[] 0)
      have c1 : (wr.alloc (.map #[] 0)).cell? ⟨c, 1, none⟩ = some (.map (some M)) := by rw [blk_cell hb2]; rfl
      have f1 : (wr.alloc (.map #[] 0)).frozen? ⟨c, 1, none⟩ = false := blk_frozen hb2 1
      have KA : Keep (offT []) wr (wr.alloc (.map #[] 0)) := alloc_keep _ _ _
      have BA := (below_alloc (Below.refl wr.heap.size wr) (.map #[] 0)).mono D1.out.below_size
      have hM2 := blk_new wr (.map #[] 0)
      obtain ⟨M2, hMM⟩ : ∃ M2, wr.heap.size = M2 := ⟨_, rfl⟩
      have hbM : base ≤ M2 := by rw [← hMM]; exact D1.out.below_size
      rw [hMM] at hM2 hmm
      have hcM : c ≠ M2 := by have := blk_lt hb1; omega
      have BS0 : Blks (wr.alloc (.map #[] 0)) (wr.alloc (.map #[] 0)) base [(c, lruC n M (headB L none) (lastB L none) (fnV g) h1 m1, 52)] := Blks.start (by simp only [List.mem_cons, List.not_mem_nil, or_false, forall_eq]; exact ⟨hb2, D1.out.bc⟩) (by simp)
      have GA := Aside0.mk (G1.out.keep KA (by simp [offT]) (by simp [offT]))
      have KA2 := Aside0.mk (K1.out.trans (alloc_keep (offM tA) wr (.map #[] 0)))
      have BA2 := Aside0.mk (B1.out.trans BA)
      have HM2 := Aside0.mk hM2
      have BS := Aside0.mk BS0
      have BS1 := Aside0.mk (BS0.set 0 rfl 1 (.map (some M2)) (cs' := lruC n M2 (headB L none) (lastB L none) (fnV g) h1 m1) rfl)
      clear hb1 hb2 KA BA hM2 BS0 G1 D1 K1 B1 HG R1 hMM
      go_upto_region 7 with (fail)
      change Code.wp _ _ _ _ ((wr.alloc (.map #[] 0)).setCell ⟨c, 1, none⟩ (.map (some M2)))
      clear c0 c1 f1 hmm
      generalize (wr.alloc (.map #[] 0)) = wa at GA KA2 BA2 HM2 BS BS1 ⊢
      generalize (wa.setCell ⟨c, 1, none⟩ (.map (some M2))) = w1 at BS1 ⊢
      have c2 : w1.cell? ⟨c, 2, none⟩ = some (pE (headB L none)) := BS1.out.cell 0 rfl 2 rfl
      have f2 : w1.frozen? ⟨c, 2, none⟩ = false := BS1.out.frozen 0 rfl 2
      go_upto_region 8 with (fail)
      have BS2 := Aside0.mk (BS1.out.set 0 rfl 2 (.pointer none) (cs' := lruC n M2 none (lastB L none) (fnV g) h1 m1) rfl)
      change Code.wp _ _ _ _ (w1.setCell ⟨c, 2, none⟩ (.pointer none))
      clear c2 f2 BS1
      generalize (w1.setCell ⟨c, 2, none⟩ (.pointer none)) = w2 at BS2 ⊢
      have c3 : w2.cell? ⟨c, 3, none⟩ = some (pE (lastB L none)) := BS2.out.cell 0 rfl 3 rfl
      have f3 : w2.frozen? ⟨c, 3, none⟩ = false := BS2.out.frozen 0 rfl 3
      go_upto_region 9 with (fail)
      have BS3 := Aside0.mk (BS2.out.set 0 rfl 3 (.pointer none) (cs' := lruC n M2 none none (fnV g) h1 m1) rfl)
      change Code.wp _ _ _ _ (w2.setCell ⟨c, 3, none⟩ (.pointer none))
      clear c3 f3 BS2
      generalize (w2.setCell ⟨c, 3, none⟩ (.pointer none)) = w3 at BS3 ⊢
      have c5 : w3.cell? ⟨c, 5, none⟩ = some (.int .i64 h1) := BS3.out.cell 0 rfl 5 rfl
      have f5 : w3.frozen? ⟨c, 5, none⟩ = false := BS3.out.frozen 0 rfl 5
      go_upto_region 10 with (fail)
      have BS4 := Aside0.mk (BS3.out.set 0 rfl 5 (.int .i64 0) (cs' := lruC n M2 none none (fnV g) 0 m1) rfl)
      change Code.wp _ _ _ _ (w3.setCell ⟨c, 5, none⟩ (.int .i64 0))
      clear c5 f5 BS3
      generalize (w3.setCell ⟨c, 5, none⟩ (.int .i64 0)) = w4 at BS4 ⊢
      have c6 : w4.cell? ⟨c, 6, none⟩ = some (.int .i64 m1) := BS4.out.cell 0 rfl 6 rfl
      have f6 : w4.frozen? ⟨c, 6, none⟩ = false := BS4.out.frozen 0 rfl 6
      go_wp2
      go_end0
      have BS5 := BS4.out.set 0 rfl 6 (.int .i64 0) (cs' := lruC n M2 none none (fnV g) 0 0) rfl
      have KK := Blks.keep BS.out BS5 rfl tL (by simp)
      refine ⟨rfl, M2, γ', ⟨⟨⟨0, 0, BS5.get 0 rfl⟩, trivial, by simp, HH.out.dll.bc, by simp⟩, MapOf.made (KK _ _ HM2.out trivial), hbM, GA.out.keep KK (by simp [offT]) (by simp [offT]), by simp, HH.out.nb⟩, HG0.out, KA2.out.trans (keepL_A KK), BA2.out.trans BS5.bel⟩
    · intro x o kl y1 y2 w1 cnt1 hkey hlk hv hat hrg1 hlt hgr hsz1 hen
      obtain ⟨x', e1, rfl, hwx⟩ := Maps.keyOf_int_inv Try.underlying3 hkey
      cases e1
      obtain ⟨ent, hentL, rfl, rfl⟩ : ∃ ent ∈ L, ent.2.1 = x ∧ o = some ent.1 := by
        by_cases hp : ∃ ent ∈ L, ent.2.1 = x
        · obtain ⟨ent, h1, h2⟩ := hp
          refine ⟨ent, h1, h2, ?_⟩
          have h3 := HAT.out ent h1 .nil
          rw [h2, hat .nil] at h3
          have h4 := rdE_inv_some (d := y1) (ps := y2) hv h3
          exact pE_inv_some h4
        · exfalso
          have h1 := HNO.out x (fun ent he e => hp ⟨ent, he, e⟩) .nil
          have h2 := HNO.out x (fun ent he e => hp ⟨ent, he, e⟩) (.ptr .nil)
          rw [hat] at h1 h2
          rw [h1] at h2
          cases h2
      simp only [pE] at hen ⊢
      have KN := next_keep R1.out hgr
      have R2 := Aside0.mk hrg1
      have D2 := Aside0.mk (D1.out.keep KN (by simp [offM]) (by simp [offM]))
      have G2 := Aside0.mk (G1.out.keep KN (by simp [offM]) (by simp [offM]))
      have K2 := Aside0.mk (K1.out.trans (keepM_A KN))
      have B2 := Aside0.mk (B1.out.trans (grown_below hgr (fun j hj => by cases hj; exact hbr) D1.out.below_size))
      have HLT := Aside0.mk hlt
      have HL := Aside0.mk (leftN_strike HH.out.map.keys hentL hlk)
      obtain ⟨h1, m1, hb1⟩ := D2.out.blk
      obtain ⟨ea, eb, he1⟩ := seg_mem D2.out.seg ent hentL
      have c4 : w1.cell? ⟨c, 4, none⟩ = some (.func (.func 8) #[] #[.pointer (some ⟨g, 0, none⟩)]) := by rw [blk_cell hb1]; rfl
      have x1 : w1.cell? ⟨ent.1, 1, none⟩ = some (.int .i64 ent.2.2) := by rw [blk_cell he1]; rfl
      clear KN hrg1 hlt hgr hsz1 hb1 he1 hkey hlk hv hat D1 G1 K1 B1
      go_upto_region 5 with (fail)
      go_still_tail 9, (by kernel_rfl)
      change wpList _ _ _ _ _ w1.drew
      have R3 := Aside0.mk (ranges_keep R2.out (drew_keep (offT []) w1))
      have D3 := Aside0.mk (D2.out.keep (drew_keep (offT []) w1) (by simp [offT]) (by simp [offT]))
      have G3 := Aside0.mk (G2.out.keep (drew_keep (offT []) w1) (by simp [offT]) (by simp [offT]))
      have K3 := Aside0.mk (K2.out.trans (drew_keep _ w1))
      have B3 := Aside0.mk (B2.out.trans (drew_below base w1))
      clear R2 D2 G2 K2 B2 c4 x1 hen
      generalize w1.drew = w3 at R3 D3 G3 K3 B3 ⊢
      go_wp2_with fail
      refine (told_ w3 base g γ' ent.2.1 ent.2.2 G3.out (by have := HG.out; have := HH.out.cap; have := HH.out.nb; omega)).mono ?_
      rintro e w4 ⟨rfl, hg4, hk4, hb4⟩
      have R4 := Aside0.mk (ranges_keep R3.out hk4)
      have D4 := Aside0.mk (D3.out.keep hk4 (by simp [offT]) (by simp [offT]))
      have G4 := Aside0.mk hg4
      have K4 := Aside0.mk (K3.out.trans (keepG_A hk4))
      have B4 := Aside0.mk (B3.out.trans hb4)
      clear hg4 hk4 hb4 R3 D3 G3 K3 B3
      go_wp2_with fail
      go_roundw
      case rel => exact ⟨_, _, γ' + 1, R4.out, G4, ⟨by have h1 := HG.out; have h2 := HL.out; omega⟩, D4, K4, B4⟩
      case measure => rw [R4.out.left_eq, R1.out.left_eq]; exact HLT.out
end Go.Proofs.Ytjncpidadcfncaa.Hand
