/- The cache: GetOrCompute (printed by genCacheF.py). -/
import Derived.Test.YtjncpidadcfncaaHandCacheE
namespace Go.Proofs.Ytjncpidadcfncaa.Hand
open Go.RowKit Go.Proofs.YtjncpidadcfncaaW.PrintWords Go.Proofs.Ytjncpidadcfncaa.Base
open Go.Maps (Keyed)
set_option linter.unusedVariables false
set_option linter.unusedSimpArgs false

/-- The cells of what a call gave. -/
def outC (ok : Bool) (key val : Int) (rate : Nat) (asked : Bool) (gone : Value) : Array Value := #[.bool ok, .int .i64 key, .int .i64 val, .float .f64 rate, .bool asked, gone]
theorem keep_set {P : Obj → Prop} {w w1 : World} (K : Keep P w w1) {g : Nat} {cs : Array Value} {t : TypeId} (hg : w.heap[g]? = some (.cells cs t (0, 0))) (hP : P (.cells cs t (0, 0))) (j : Nat) (u : Value) : Keep P (w.setCell ⟨g, j, none⟩ u) (w1.setCell ⟨g, j, none⟩ u) := by
  intro b o hb ho
  by_cases e : b = g
  · subst e
    rw [blk_set hg j u] at hb
    cases hb
    exact blk_set (K _ _ hg hP) j u
  · have h1 := Below.heap_setCell w ⟨g, j, none⟩ u b e
    exact (Below.heap_setCell _ _ _ _ e).trans (K b o (h1.symm.trans hb) ho)
theorem below_set {base : Nat} {w w1 : World} (h : Below base w w1) {g : Nat} (hg : base ≤ g) (j : Nat) (u : Value) : Below base (w.setCell ⟨g, j, none⟩ u) (w1.setCell ⟨g, j, none⟩ u) :=
  ⟨h.os, h.tape, h.output, by have := h.size; simpa [World.setCell] using this, fun k hk => (Below.heap_setCell w1 ⟨g, j, none⟩ u k (by simp only; omega)).trans ((h.block k hk).trans (Below.heap_setCell w ⟨g, j, none⟩ u k (by simp only; omega)).symm)⟩
theorem CacheAt.setOut {w : World} {base c g n M γ : Nat} {L : List Ent} (H : CacheAt w base c g n M γ L) {o : Nat} {oc : Array Value} (ho : w.heap[o]? = some (.cells oc 32 (0, 0))) (j : Nat) (u : Value) : CacheAt (w.setCell ⟨o, j, none⟩ u) base c g n M γ L := by
  have K := set_keep ho (S := [32]) (by simp) j u
  exact ⟨H.dll.keep K (by simp [offT]) (by simp [offT]), H.map.keep K (by simp [offT]), H.bm, H.gone.keep K (by simp [offT]) (by simp [offT]), H.cap, H.nb⟩

set_option maxHeartbeats 4000000 in
set_option maxRecDepth 100000 in
theorem comp_ (w : World) (o x : Nat) (d k v : Int) (gv : Value) (ok : Bool) (key val : Int) (rate : Nat) (asked : Bool) (ho : w.heap[o]? = some (.cells (outC ok key val rate asked gv) 32 (0, 0))) (hx : w.heap[x]? = some (.cells #[.int .i64 d, .int .i64 k, .int .i64 v] 25 (0, 0))) :
    Calls Try.prog 12 #[.pointer (some ⟨o, 0, none⟩), .pointer (some ⟨x, 0, none⟩)] w fun r w' => r = .returned (.int .i64 v) ∧ w' = w.setCell ⟨o, 4, none⟩ (.bool true) := by
  have o4 : w.cell? ⟨o, 4, none⟩ = some (.bool asked) := by rw [blk_cell ho]; rfl
  have f4 : w.frozen? ⟨o, 4, none⟩ = false := blk_frozen ho 4
  have hxo : x ≠ o := blk_ne' hx ho (by decide)
  have x2 : (w.setCell ⟨o, 4, none⟩ (.bool true)).cell? ⟨x, 2, none⟩ = some (.int .i64 v) := by rw [blk_cell (blk_far hx hxo _)]; rfl
  clear ho hx
  go_enter Try.func12, Try.ntmps12
  go_wp2
  go_ret
  exact ⟨rfl, rfl⟩

set_option maxHeartbeats 4000000 in
set_option maxRecDepth 100000 in
theorem compute_old (w : World) (base c g n M γ : Nat) (A B : List Ent) (x : Ent) (fv : Value) (H : CacheAt w base c g n M γ (A ++ x :: B)) (hn : 1 ≤ n) :
    Calls Try.prog 11 #[.pointer (some ⟨c, 0, none⟩), .int .i64 x.2.1, fv] w fun r w' => r = .returned (.int .i64 x.2.2) ∧ After w w' base c g n M γ (A ++ x :: B) 0 0 := by
  obtain ⟨h, m, hb⟩ := H.dll.blk
  have hlook := H.map.found (x := x) (by simp)
  have c0 : w.cell? ⟨c, 0, none⟩ = some (.int .i64 (n : Int)) := by rw [blk_cell hb]; rfl
  have c1 : w.cell? ⟨c, 1, none⟩ = some (.map (some M)) := by rw [blk_cell hb]; rfl
  have p1 : decide ((n : Int) ≤ 0) = false := decide_eq_false (by omega)
  have HH := Aside0.mk H
  clear H hb
  go_enter Try.func11, Try.ntmps11
  go_upto_region 6 with (go_at_call 19; refine (moveToFront_ w base c n M (fnV g) A B x HH.out.dll).mono ?_; rintro e w2 ⟨rfl, hd, hk, hb⟩; have D2 := Aside0.mk hd; have K2 := Aside0.mk hk; have B2 := Aside0.mk hb; have M2 := Aside0.mk ((HH.out.map.keep hk (by simp [offT])).perm (perm_front _ _ _)); have G2 := Aside0.mk (HH.out.gone.keep hk (by simp [offT]) (by simp [offT])); clear hd hk hb)
  obtain ⟨h2, m2, hb2⟩ := D2.out.blk
  clear hlook c0 c1
  have c5 : w2.cell? ⟨c, 5, none⟩ = some (.int .i64 h2) := by rw [blk_cell hb2]; rfl
  have f5 : w2.frozen? ⟨c, 5, none⟩ = false := blk_frozen hb2 5
  obtain ⟨u, ew⟩ : ∃ u, IntKind.i64.wrap (h2 + 1) = u := ⟨_, rfl⟩
  clear hb2
  go_upto_region 7 with (fail)
  have D3 := Aside0.mk (D2.out.setHits u)
  have KB := Aside0.mk (D2.out.setKeep 5 (.int .i64 u))
  change Code.wp _ _ _ _ (w2.setCell ⟨c, 5, none⟩ (.int .i64 u))
  have M3 := Aside0.mk (M2.out.keep KB.out.1 (by simp [offT]))
  have G3 := Aside0.mk (G2.out.keep KB.out.1 (by simp [offT]) (by simp [offT]))
  clear c5 f5 ew D2 M2 G2
  generalize (w2.setCell ⟨c, 5, none⟩ (.int .i64 u)) = w3 at D3 KB M3 G3 ⊢
  have hx := D3.out.seg.1
  have x1 : w3.cell? ⟨x.1, 1, none⟩ = some (.int .i64 x.2.2) := by rw [blk_cell hx]; rfl
  clear hx
  go_wp2
  go_ret
  have hc := HH.out.cap
  refine ⟨rfl, γ, _, ⟨D3.out, M3.out, HH.out.bm, G3.out, ?_, HH.out.nb⟩, ?_, by omega, keepL_A (K2.out.trans KB.out.1), B2.out.trans KB.out.2⟩
  · simp at hc ⊢; omega
  · simp; omega

set_option maxHeartbeats 4000000 in
set_option maxRecDepth 100000 in
theorem compute_new (w : World) (base c g n M γ : Nat) (L : List Ent) (k v : Int) (H : CacheAt w base c g n M γ L) (hn : 1 ≤ n) (hk : ∀ x ∈ L, x.2.1 ≠ k) (hw : (Lit.int .i64 k).wf = true) (hγ : γ ≤ 1000000)
    (o x : Nat) (d k0 : Int) (gv : Value) (ok : Bool) (key val : Int) (rate : Nat) (asked : Bool) (ho : w.heap[o]? = some (.cells (outC ok key val rate asked gv) 32 (0, 0))) (hx : w.heap[x]? = some (.cells #[.int .i64 d, .int .i64 k0, .int .i64 v] 25 (0, 0))) (hbo : base ≤ o) :
    Calls Try.prog 11 #[.pointer (some ⟨c, 0, none⟩), .int .i64 k, .func (.func 12) #[] #[.pointer (some ⟨o, 0, none⟩), .pointer (some ⟨x, 0, none⟩)]] w fun r w' => r = .returned (.int .i64 v) ∧ After (w.setCell ⟨o, 4, none⟩ (.bool true)) w' base c g n M γ L 1 0 := by
  obtain ⟨h, m, hb⟩ := H.dll.blk
  have hlook := H.map.lacks hk hw
  have c0 : w.cell? ⟨c, 0, none⟩ = some (.int .i64 (n : Int)) := by rw [blk_cell hb]; rfl
  have c1 : w.cell? ⟨c, 1, none⟩ = some (.map (some M)) := by rw [blk_cell hb]; rfl
  have c6 : w.cell? ⟨c, 6, none⟩ = some (.int .i64 m) := by rw [blk_cell hb]; rfl
  have f6 : w.frozen? ⟨c, 6, none⟩ = false := blk_frozen hb 6
  have p1 : decide ((n : Int) ≤ 0) = false := decide_eq_false (by omega)
  obtain ⟨u, ew⟩ : ∃ u, IntKind.i64.wrap (m + 1) = u := ⟨_, rfl⟩
  have HH := Aside0.mk H
  have HK := Aside0.mk hk
  have H1 := Aside0.mk (H.setMiss u)
  have K1 := Aside0.mk (H.dll.setKeep 6 (.int .i64 u))
  have O := Aside0.mk ho
  have X := Aside0.mk hx
  clear H hb hk ho hx
  go_enter Try.func11, Try.ntmps11
  go_upto_region 9 with (fail)
  change Code.wp _ _ _ _ (w.setCell ⟨c, 6, none⟩ (.int .i64 u))
  have O1 := Aside0.mk (K1.out.1.cells O.out (by simp [offT]))
  have X1 := Aside0.mk (K1.out.1.cells X.out (by simp [offT]))
  have K0 := Aside0.mk (keep_set (keepL_A K1.out.1) O.out (by simp [offM]) 4 (.bool true))
  have B0 := Aside0.mk (below_set K1.out.2 hbo 4 (.bool true))
  clear c0 c1 c6 f6 ew hlook O X
  generalize (w.setCell ⟨c, 6, none⟩ (.int .i64 u)) = w1 at H1 K1 O1 X1 K0 B0 ⊢
  go_wp2_with fail
  refine (comp_ w1 o x d k0 v gv ok key val rate asked O1.out X1.out).mono ?_
  rintro r w0 ⟨rfl, rfl⟩
  have H0 := Aside0.mk (H1.out.setOut O1.out 4 (.bool true))
  clear H1 K1 O1 X1
  generalize (w1.setCell ⟨o, 4, none⟩ (.bool true)) = w0 at H0 K0 B0 ⊢
  obtain ⟨h0, m0, hb0⟩ := H0.out.dll.blk
  have hlook := H0.out.map.lacks HK.out hw
  have hlen := H0.out.drew.map.len 3
  have c0 : w0.cell? ⟨c, 0, none⟩ = some (.int .i64 (n : Int)) := by rw [blk_cell hb0]; rfl
  have c1 : w0.cell? ⟨c, 1, none⟩ = some (.map (some M)) := by rw [blk_cell hb0]; rfl
  clear hb0
  go_wp2
  go_region
  have H1 := Aside0.mk H0.out.drew
  have K1 := Aside0.mk (K0.out.trans (drew_keep (offM tA) w0))
  have B1 := Aside0.mk (B0.out.trans (drew_below base w0))
  clear hlook hlen c0 c1 p1 H0 K0 B0
  generalize w0.drew = w1 at H1 K1 B1 ⊢
  by_cases hfull : n ≤ L.length
  · have p2 : decide (n ≤ L.length) = true := decide_eq_true hfull
    rcases List.eq_nil_or_concat L with rfl | ⟨L2, y, rfl⟩
    · simp at hfull; omega
    rw [List.concat_eq_append] at *
    go_upto_region 17 with (go_at_call 20; refine (removeOldest_ w1 base c g n M γ L2 y H1.out hγ).mono ?_; rintro r w2 ⟨rfl, h2, hk2, hb2⟩; have H2 := Aside0.mk h2; have K2 := Aside0.mk (K1.out.trans hk2); have B2 := Aside0.mk (B1.out.trans hb2); clear h2 hk2 hb2)
    have D2 := Aside0.mk H2.out.dll
    have M2 := Aside0.mk H2.out.map
    have G2 := Aside0.mk H2.out.gone
    have HC : Aside0 (L2.length < n) := ⟨by have := HH.out.cap; simp at this; omega⟩
    have HN := Aside0.mk HH.out.nb
    have HK2 : Aside0 (∀ x ∈ L2, x.2.1 ≠ k) := ⟨fun x hx => HK.out x (by simp [hx])⟩
    clear H2 H1 K1 B1 p2 hfull HK
    have hlt := D2.out.lt
    have hbz := D2.out.below_size
    go_upto_region 18 with (fail)
    change Code.wp _ _ _ _ (w2.alloc (.cells #[.int .i64 k, .int .i64 v, .pointer none, .pointer none] 55))
    have KA : Keep (offT []) w2 (w2.alloc (.cells #[.int .i64 k, .int .i64 v, .pointer none, .pointer none] 55)) := alloc_keep _ _ _
    have D3 := Aside0.mk (D2.out.keep KA (by simp [offT]) (by simp [offT]))
    have M3 := Aside0.mk (M2.out.keep KA (by simp [offT]))
    have G3 := Aside0.mk (G2.out.keep KA (by simp [offT]) (by simp [offT]))
    have O3 : Aside0 (Outd (w2.alloc (.cells #[.int .i64 k, .int .i64 v, .pointer none, .pointer none] 55)) base w2.heap.size k v L2) := ⟨⟨⟨none, none, blk_new w2 _⟩, hbz, fun x hx => Nat.ne_of_lt (hlt x hx)⟩⟩
    have K3 := Aside0.mk (K2.out.trans (alloc_keep (offM tA) w2 (.cells #[.int .i64 k, .int .i64 v, .pointer none, .pointer none] 55)))
    have B3 := Aside0.mk (B2.out.trans ((below_alloc (Below.refl w2.heap.size w2) (.cells #[.int .i64 k, .int .i64 v, .pointer none, .pointer none] 55)).mono hbz))
    clear KA hlt hbz D2 M2 G2 K2 B2
    obtain ⟨e, he⟩ : ∃ e, w2.heap.size = e := ⟨_, rfl⟩
    rw [he] at O3
    try rw [he]
    generalize (w2.alloc (.cells #[.int .i64 k, .int .i64 v, .pointer none, .pointer none] 55)) = w3 at D3 M3 G3 O3 K3 B3 ⊢
    clear he
    go_upto_region 19 with (go_at_call 21; refine (addToFront_ w3 base c e k v n M (fnV g) L2 D3.out O3.out).mono ?_; rintro r w4 ⟨rfl, hd, hk4, hb4⟩; have D4 := Aside0.mk hd; have K4 := Aside0.mk (K3.out.trans (keepL_A hk4)); have B4 := Aside0.mk (B3.out.trans hb4); have M4 := Aside0.mk (M3.out.keep hk4 (by simp [offT])); have G4 := Aside0.mk (G3.out.keep hk4 (by simp [offT]) (by simp [offT])); clear hd hk4 hb4)
    obtain ⟨h4, m4, hb4⟩ := D4.out.blk
    have c1 : w4.cell? ⟨c, 1, none⟩ = some (.map (some M)) := by rw [blk_cell hb4]; rfl
    clear hb4 D3 M3 G3 O3 K3 B3
    obtain ⟨w5, hrun, hm5, ht5⟩ := M4.out.put (by have := HC.out; have := HN.out; omega) (e, k, v) HK2.out hw
    have M5 := Aside0.mk hm5
    have K5 := Aside0.mk (turned_keep ht5)
    have B5 := Aside0.mk (B4.out.trans (turned_below ht5 HH.out.bm))
    clear hm5 ht5
    go_wp2
    go_ret
    exact ⟨rfl, γ + 1, (e, k, v) :: L2, ⟨D4.out.keep K5.out (by simp [offM]) (by simp [offM]), M5.out, HH.out.bm, G4.out.keep K5.out (by simp [offM]) (by simp [offM]), by have := HC.out; simp; omega, HN.out⟩, by simp; omega, by omega, K4.out.trans (keepM_A K5.out), B5.out⟩
  · have p2 : decide (n ≤ L.length) = false := decide_eq_false hfull
    go_upto_region 17 with (fail)
    have D2 := Aside0.mk H1.out.dll
    have M2 := Aside0.mk H1.out.map
    have G2 := Aside0.mk H1.out.gone
    have HC : Aside0 (L.length < n) := ⟨by omega⟩
    have HN := Aside0.mk HH.out.nb
    have HK2 := HK
    have K2 := K1
    have B2 := B1
    clear H1 K1 B1 p2 hfull HK
    have hlt := D2.out.lt
    have hbz := D2.out.below_size
    go_upto_region 18 with (fail)
    change Code.wp _ _ _ _ (w1.alloc (.cells #[.int .i64 k, .int .i64 v, .pointer none, .pointer none] 55))
    have KA : Keep (offT []) w1 (w1.alloc (.cells #[.int .i64 k, .int .i64 v, .pointer none, .pointer none] 55)) := alloc_keep _ _ _
    have D3 := Aside0.mk (D2.out.keep KA (by simp [offT]) (by simp [offT]))
    have M3 := Aside0.mk (M2.out.keep KA (by simp [offT]))
    have G3 := Aside0.mk (G2.out.keep KA (by simp [offT]) (by simp [offT]))
    have O3 : Aside0 (Outd (w1.alloc (.cells #[.int .i64 k, .int .i64 v, .pointer none, .pointer none] 55)) base w1.heap.size k v L) := ⟨⟨⟨none, none, blk_new w1 _⟩, hbz, fun x hx => Nat.ne_of_lt (hlt x hx)⟩⟩
    have K3 := Aside0.mk (K2.out.trans (alloc_keep (offM tA) w1 (.cells #[.int .i64 k, .int .i64 v, .pointer none, .pointer none] 55)))
    have B3 := Aside0.mk (B2.out.trans ((below_alloc (Below.refl w1.heap.size w1) (.cells #[.int .i64 k, .int .i64 v, .pointer none, .pointer none] 55)).mono hbz))
    clear KA hlt hbz D2 M2 G2 K2 B2
    obtain ⟨e, he⟩ : ∃ e, w1.heap.size = e := ⟨_, rfl⟩
    rw [he] at O3
    try rw [he]
    generalize (w1.alloc (.cells #[.int .i64 k, .int .i64 v, .pointer none, .pointer none] 55)) = w3 at D3 M3 G3 O3 K3 B3 ⊢
    clear he
    go_upto_region 19 with (go_at_call 21; refine (addToFront_ w3 base c e k v n M (fnV g) L D3.out O3.out).mono ?_; rintro r w4 ⟨rfl, hd, hk4, hb4⟩; have D4 := Aside0.mk hd; have K4 := Aside0.mk (K3.out.trans (keepL_A hk4)); have B4 := Aside0.mk (B3.out.trans hb4); have M4 := Aside0.mk (M3.out.keep hk4 (by simp [offT])); have G4 := Aside0.mk (G3.out.keep hk4 (by simp [offT]) (by simp [offT])); clear hd hk4 hb4)
    obtain ⟨h4, m4, hb4⟩ := D4.out.blk
    have c1 : w4.cell? ⟨c, 1, none⟩ = some (.map (some M)) := by rw [blk_cell hb4]; rfl
    clear hb4 D3 M3 G3 O3 K3 B3
    obtain ⟨w5, hrun, hm5, ht5⟩ := M4.out.put (by have := HC.out; have := HN.out; omega) (e, k, v) HK2.out hw
    have M5 := Aside0.mk hm5
    have K5 := Aside0.mk (turned_keep ht5)
    have B5 := Aside0.mk (B4.out.trans (turned_below ht5 HH.out.bm))
    clear hm5 ht5
    go_wp2
    go_ret
    exact ⟨rfl, γ, (e, k, v) :: L, ⟨D4.out.keep K5.out (by simp [offM]) (by simp [offM]), M5.out, HH.out.bm, G4.out.keep K5.out (by simp [offM]) (by simp [offM]), by have := HC.out; simp; omega, HN.out⟩, by simp; omega, by omega, K4.out.trans (keepM_A K5.out), B5.out⟩
end Go.Proofs.Ytjncpidadcfncaa.Hand
