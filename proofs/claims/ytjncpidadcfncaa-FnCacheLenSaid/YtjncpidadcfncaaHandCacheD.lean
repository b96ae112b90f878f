/- The cache: Add. -/
import Derived.Test.YtjncpidadcfncaaHandCacheC
namespace Go.Proofs.Ytjncpidadcfncaa.Hand
open Go.RowKit Go.Proofs.YtjncpidadcfncaaW.PrintWords Go.Proofs.Ytjncpidadcfncaa.Base
open Go.Maps (Keyed)
set_option linter.unusedVariables false
set_option linter.unusedSimpArgs false

theorem set_keep {w : World} {g : Nat} {cs : Array Value} {t : TypeId} (hg : w.heap[g]? = some (.cells cs t (0, 0))) {S : List TypeId} (ht : t ∈ S) (j : Nat) (u : Value) : Keep (offT S) w (w.setCell ⟨g, j, none⟩ u) := by
  intro b o hb ho
  by_cases e : b = g
  · subst e
    rw [hg] at hb
    cases hb
    exact absurd ht ho
  · exact (Below.heap_setCell _ _ _ _ e).trans hb
theorem alloc_keep (P : Obj → Prop) (w : World) (o : Obj) : Keep P w (w.alloc o) := fun x o' hx _ => blk_alloc hx o
theorem Dll.setVal {w : World} {base c : Nat} {n : Int} {M : Nat} {f : Value} {A B : List Ent} {x : Ent} (H : Dll w base c n M f (A ++ x :: B)) (v : Int) : Dll (w.setCell ⟨x.1, 1, none⟩ (.int .i64 v)) base c n M f (A ++ (x.1, x.2.1, v) :: B) := by
  have hxc := H.ne x (by simp)
  have hnd := H.nodup
  rw [List.map_append, List.map_cons, List.nodup_append, List.nodup_cons] at hnd
  obtain ⟨n1, ⟨n2, n3⟩, n4⟩ := hnd
  obtain ⟨h, m, hb⟩ := H.blk
  have hs := H.seg
  rw [seg_append] at hs
  obtain ⟨hA, hx, hB⟩ := hs
  have e1 : headB (A ++ x :: B) none = headB (A ++ (x.1, x.2.1, v) :: B) none := by rw [headB_append, headB_append]; rfl
  have e2 : lastB (A ++ x :: B) none = lastB (A ++ (x.1, x.2.1, v) :: B) none := by rw [lastB_append, lastB_append]; rfl
  refine ⟨⟨h, m, ?_⟩, ?_, by simpa using H.nodup, H.bc, ?_⟩
  · rw [← e1, ← e2]
    exact blk_far hb (Ne.symm hxc) _
  · rw [seg_append]
    refine ⟨seg_congr hA (fun y hy => Below.heap_setCell _ _ _ _ (fun e => ?_)), blk_put hx 1 _ rfl, seg_congr hB (fun y hy => Below.heap_setCell _ _ _ _ (fun e => ?_))⟩
    · exact n4 _ (List.mem_map.2 ⟨y, hy, rfl⟩) _ (by simp) e
    · exact n2 (List.mem_map.2 ⟨y, hy, e⟩)
  · intro y hy
    rcases List.mem_append.1 hy with h | h
    · exact H.bl y (by simp [h])
    · rcases List.mem_cons.1 h with rfl | h
      · exact H.bl x (by simp)
      · exact H.bl y (by simp [h])
theorem perm_front (A B : List Ent) (x : Ent) : (A ++ x :: B).Perm (x :: (A ++ B)) := List.perm_middle
theorem Dll.below_size {w : World} {base c : Nat} {n : Int} {M : Nat} {f : Value} {L : List Ent} (H : Dll w base c n M f L) : base ≤ w.heap.size := by
  obtain ⟨h, m, hb⟩ := H.blk
  have := blk_lt hb
  have := H.bc
  omega
theorem Dll.lt {w : World} {base c : Nat} {n : Int} {M : Nat} {f : Value} {L : List Ent} (H : Dll w base c n M f L) : ∀ x ∈ L, x.1 < w.heap.size := by
  intro x hx
  obtain ⟨a, b, hx⟩ := seg_mem H.seg x hx
  exact blk_lt hx
theorem CacheAt.keep {w w' : World} {base c g n M γ : Nat} {L : List Ent} (h : CacheAt w base c g n M γ L) {P : Obj → Prop} (K : Keep P w w') (h1 : ∀ cs t, P (.cells cs t (0, 0))) (h2 : ∀ es ck, P (.map es ck)) : CacheAt w' base c g n M γ L :=
  ⟨h.dll.keep K (fun _ => h1 _ _) (fun _ => h1 _ _), h.map.keep K h2, h.bm, h.gone.keep K (fun _ => h1 _ _) (fun _ => h1 _ _), h.cap, h.nb⟩

/-- What a call leaves: a more entries than went or were removed (r). -/
def After (w w' : World) (base c g n M γ : Nat) (L : List Ent) (a r : Nat) : Prop :=
  ∃ γ' L', CacheAt w' base c g n M γ' L' ∧ L'.length + γ' + r = L.length + γ + a ∧ γ' ≤ γ + 1000 ∧ Keep (offM tA) w w' ∧ Below base w w'

set_option maxHeartbeats 4000000 in
set_option maxRecDepth 100000 in
theorem add_old (w : World) (base c g n M γ : Nat) (A B : List Ent) (x : Ent) (v : Int) (H : CacheAt w base c g n M γ (A ++ x :: B)) (hn : 1 ≤ n) :
    Calls Try.prog 9 #[.pointer (some ⟨c, 0, none⟩), .int .i64 x.2.1, .int .i64 v] w fun r w' => r = .returned (.bool false) ∧ After w w' base c g n M γ (A ++ x :: B) 0 0 := by
  obtain ⟨h, m, hb⟩ := H.dll.blk
  obtain ⟨ex1, ex2, hx⟩ := seg_mem H.dll.seg x (by simp)
  have hlook := H.map.found (x := x) (by simp)
  have c0 : w.cell? ⟨c, 0, none⟩ = some (.int .i64 (n : Int)) := by rw [blk_cell hb]; rfl
  have c1 : w.cell? ⟨c, 1, none⟩ = some (.map (some M)) := by rw [blk_cell hb]; rfl
  have x1 : w.cell? ⟨x.1, 1, none⟩ = some (.int .i64 x.2.2) := by rw [blk_cell hx]; rfl
  have fx1 : w.frozen? ⟨x.1, 1, none⟩ = false := blk_frozen hx 1
  have p1 : decide ((n : Int) ≤ 0) = false := decide_eq_false (by omega)
  have HH := Aside0.mk H
  have hbx := H.dll.bl x (by simp)
  have D1 := Aside0.mk (H.dll.setVal v)
  have K0 := Aside0.mk (set_keep hx (S := tL) (by simp) 1 (.int .i64 v))
  have B1 := Aside0.mk ((Below.refl base w).setCell (p := ⟨x.1, 1, none⟩) hbx (.int .i64 v))
  clear H hb hx
  go_enter Try.func9, Try.ntmps9
  go_upto_region 6 with (fail)
  change Code.wp _ _ _ _ (w.setCell ⟨x.1, 1, none⟩ (.int .i64 v))
  have M1 := Aside0.mk ((HH.out.map.keep K0.out (by simp [offT])).value v)
  have G1 := Aside0.mk (HH.out.gone.keep K0.out (by simp [offT]) (by simp [offT]))
  clear hlook c0 c1 x1 fx1 p1
  generalize (w.setCell ⟨x.1, 1, none⟩ (.int .i64 v)) = w1 at D1 K0 B1 M1 G1 ⊢
  go_wp2_with (go_at_call 19; refine (moveToFront_ w1 base c n M (fnV g) A B (x.1, x.2.1, v) D1.out).mono ?_; rintro e w2 ⟨rfl, hd, hk, hb⟩; have D2 := Aside0.mk hd; have K2 := Aside0.mk (K0.out.trans hk); have B2 := Aside0.mk (B1.out.trans hb); have M2 := Aside0.mk ((M1.out.keep hk (by simp [offT])).perm (perm_front _ _ _)); have G2 := Aside0.mk (G1.out.keep hk (by simp [offT]) (by simp [offT])); clear hd hk hb)
  go_ret
  have hc := HH.out.cap
  refine ⟨rfl, γ, _, ⟨D2.out, M2.out, HH.out.bm, G2.out, ?_, HH.out.nb⟩, ?_, by omega, keepL_A K2.out, B2.out⟩
  · simp at hc ⊢; omega
  · simp; omega

set_option maxHeartbeats 4000000 in
set_option maxRecDepth 100000 in
theorem add_new (w : World) (base c g n M γ : Nat) (L : List Ent) (k v : Int) (H : CacheAt w base c g n M γ L) (hn : 1 ≤ n) (hk : ∀ x ∈ L, x.2.1 ≠ k) (hw : (Lit.int .i64 k).wf = true) (hγ : γ ≤ 1000000) :
    Calls Try.prog 9 #[.pointer (some ⟨c, 0, none⟩), .int .i64 k, .int .i64 v] w fun r w' => ∃ b, r = .returned (.bool b) ∧ After w w' base c g n M γ L 1 0 := by
  obtain ⟨h, m, hb⟩ := H.dll.blk
  have hlook := H.map.lacks hk hw
  have hlen := H.drew.map.len 3
  have c0 : w.cell? ⟨c, 0, none⟩ = some (.int .i64 (n : Int)) := by rw [blk_cell hb]; rfl
  have c1 : w.cell? ⟨c, 1, none⟩ = some (.map (some M)) := by rw [blk_cell hb]; rfl
  have p1 : decide ((n : Int) ≤ 0) = false := decide_eq_false (by omega)
  have HH := Aside0.mk H
  have HK := Aside0.mk hk
  clear H hb hk
  go_enter Try.func9, Try.ntmps9
  go_wp2
  go_region
  have H1 := Aside0.mk HH.out.drew
  have K1 := Aside0.mk (drew_keep (offM tA) w)
  have B1 := Aside0.mk (drew_below base w)
  clear hlook hlen c0 c1 p1
  generalize w.drew = w1 at H1 K1 B1 ⊢
  by_cases hfull : n ≤ L.length
  · have p2 : decide (n ≤ L.length) = true := decide_eq_true hfull
    rcases List.eq_nil_or_concat L with rfl | ⟨L2, y, rfl⟩
    · simp at hfull; omega
    rw [List.concat_eq_append] at *
    go_upto_region 11 with (go_at_call 20; refine (removeOldest_ w1 base c g n M γ L2 y H1.out hγ).mono ?_; rintro r w2 ⟨rfl, h2, hk2, hb2⟩; have H2 := Aside0.mk h2; have K2 := Aside0.mk (K1.out.trans hk2); have B2 := Aside0.mk (B1.out.trans hb2); clear h2 hk2 hb2)
    have D2 := Aside0.mk H2.out.dll
    have M2 := Aside0.mk H2.out.map
    have G2 := Aside0.mk H2.out.gone
    have HC : Aside0 (L2.length < n) := ⟨by have := HH.out.cap; simp at this; omega⟩
    have HN := Aside0.mk HH.out.nb
    have HK2 : Aside0 (∀ x ∈ L2, x.2.1 ≠ k) := ⟨fun x hx => HK.out x (by simp [hx])⟩
    clear H2 H1 K1 B1 p2 hfull HK
    have hlt := D2.out.lt
    have hbz := D2.out.below_size
    go_upto_region 12 with (fail)
    change Code.wp _ _ _ _ (w2.alloc (.cells #[.int .i64 k, .int .i64 v, .pointer none, .pointer none] 55))
    have KA : Keep (offT []) w2 (w2.alloc (.cells #[.int .i64 k, .int .i64 v, .pointer none, .pointer none] 55)) := alloc_keep _ _ _
    have D3 := Aside0.mk (D2.out.keep KA (by simp [offT]) (by simp [offT]))
    have M3 := Aside0.mk (M2.out.keep KA (by simp [offT]))
    have G3 := Aside0.mk (G2.out.keep KA (by simp [offT]) (by simp [offT]))
    have O3 : Aside0 (Outd (w2.alloc (.cells #[.int .i64 k, .int .i64 v, .pointer none, .pointer none] 55)) base w2.heap.size k v L2) := ⟨⟨⟨none, none, blk_new w2 _⟩, hbz, fun x hx => Nat.ne_of_lt (hlt x hx)⟩⟩
    have K3 := Aside0.mk (K2.out.trans (alloc_keep (offM tA) w2 (.cells #[.int .i64 k, .int .i64 v, .pointer none, .pointer none] 55)))
    have B3 := Aside0.mk (B2.out.trans ((below_alloc (Below.refl w2.heap.size w2) (.cells #[.int .i64 k, .int .i64 v, .pointer none, .pointer none] 55)).mono hbz))
    clear KA hlt hbz D2 M2 G2 K2 B2
    obtain ⟨e, he⟩ : ∃ e, w2.heap.size = e := ⟨_, rfl⟩
    rw [he] at O3
    try rw [he]
    generalize (w2.alloc (.cells #[.int .i64 k, .int .i64 v, .pointer none, .pointer none] 55)) = w3 at D3 M3 G3 O3 K3 B3 ⊢
    clear he
    go_upto_region 13 with (go_at_call 21; refine (addToFront_ w3 base c e k v n M (fnV g) L2 D3.out O3.out).mono ?_; rintro r w4 ⟨rfl, hd, hk4, hb4⟩; have D4 := Aside0.mk hd; have K4 := Aside0.mk (K3.out.trans (keepL_A hk4)); have B4 := Aside0.mk (B3.out.trans hb4); have M4 := Aside0.mk (M3.out.keep hk4 (by simp [offT])); have G4 := Aside0.mk (G3.out.keep hk4 (by simp [offT]) (by simp [offT])); clear hd hk4 hb4)
    obtain ⟨h4, m4, hb4⟩ := D4.out.blk
    have c1 : w4.cell? ⟨c, 1, none⟩ = some (.map (some M)) := by rw [blk_cell hb4]; rfl
    clear hb4 D3 M3 G3 O3 K3 B3
    obtain ⟨w5, hrun, hm5, ht5⟩ := M4.out.put (by have := HC.out; have := HN.out; omega) (e, k, v) HK2.out hw
    have M5 := Aside0.mk hm5
    have K5 := Aside0.mk (turned_keep ht5)
    have B5 := Aside0.mk (B4.out.trans (turned_below ht5 HH.out.bm))
    clear hm5 ht5
    go_wp2
    go_ret
    exact ⟨Or.inr rfl, γ + 1, (e, k, v) :: L2, ⟨D4.out.keep K5.out (by simp [offM]) (by simp [offM]), M5.out, HH.out.bm, G4.out.keep K5.out (by simp [offM]) (by simp [offM]), by have := HC.out; simp; omega, HN.out⟩, by simp; omega, by omega, K4.out.trans (keepM_A K5.out), B5.out⟩
  · have p2 : decide (n ≤ L.length) = false := decide_eq_false hfull
    go_upto_region 11 with (fail)
    have D2 := Aside0.mk H1.out.dll
    have M2 := Aside0.mk H1.out.map
    have G2 := Aside0.mk H1.out.gone
    have HC : Aside0 (L.length < n) := ⟨by omega⟩
    have HN := Aside0.mk HH.out.nb
    have HK2 := HK
    have K2 := K1
    have B2 := B1
    clear H1 K1 B1 p2 hfull HK
    have hlt := D2.out.lt
    have hbz := D2.out.below_size
    go_upto_region 12 with (fail)
    change Code.wp _ _ _ _ (w1.alloc (.cells #[.int .i64 k, .int .i64 v, .pointer none, .pointer none] 55))
    have KA : Keep (offT []) w1 (w1.alloc (.cells #[.int .i64 k, .int .i64 v, .pointer none, .pointer none] 55)) := alloc_keep _ _ _
    have D3 := Aside0.mk (D2.out.keep KA (by simp [offT]) (by simp [offT]))
    have M3 := Aside0.mk (M2.out.keep KA (by simp [offT]))
    have G3 := Aside0.mk (G2.out.keep KA (by simp [offT]) (by simp [offT]))
    have O3 : Aside0 (Outd (w1.alloc (.cells #[.int .i64 k, .int .i64 v, .pointer none, .pointer none] 55)) base w1.heap.size k v L) := ⟨⟨⟨none, none, blk_new w1 _⟩, hbz, fun x hx => Nat.ne_of_lt (hlt x hx)⟩⟩
    have K3 := Aside0.mk (K2.out.trans (alloc_keep (offM tA) w1 (.cells #[.int .i64 k, .int .i64 v, .pointer none, .pointer none] 55)))
    have B3 := Aside0.mk (B2.out.trans ((below_alloc (Below.refl w1.heap.size w1) (.cells #[.int .i64 k, .int .i64 v, .pointer none, .pointer none] 55)).mono hbz))
    clear KA hlt hbz D2 M2 G2 K2 B2
    obtain ⟨e, he⟩ : ∃ e, w1.heap.size = e := ⟨_, rfl⟩
    rw [he] at O3
    try rw [he]
    generalize (w1.alloc (.cells #[.int .i64 k, .int .i64 v, .pointer none, .pointer none] 55)) = w3 at D3 M3 G3 O3 K3 B3 ⊢
    clear he
    go_upto_region 13 with (go_at_call 21; refine (addToFront_ w3 base c e k v n M (fnV g) L D3.out O3.out).mono ?_; rintro r w4 ⟨rfl, hd, hk4, hb4⟩; have D4 := Aside0.mk hd; have K4 := Aside0.mk (K3.out.trans (keepL_A hk4)); have B4 := Aside0.mk (B3.out.trans hb4); have M4 := Aside0.mk (M3.out.keep hk4 (by simp [offT])); have G4 := Aside0.mk (G3.out.keep hk4 (by simp [offT]) (by simp [offT])); clear hd hk4 hb4)
    obtain ⟨h4, m4, hb4⟩ := D4.out.blk
    have c1 : w4.cell? ⟨c, 1, none⟩ = some (.map (some M)) := by rw [blk_cell hb4]; rfl
    clear hb4 D3 M3 G3 O3 K3 B3
    obtain ⟨w5, hrun, hm5, ht5⟩ := M4.out.put (by have := HC.out; have := HN.out; omega) (e, k, v) HK2.out hw
    have M5 := Aside0.mk hm5
    have K5 := Aside0.mk (turned_keep ht5)
    have B5 := Aside0.mk (B4.out.trans (turned_below ht5 HH.out.bm))
    clear hm5 ht5
    go_wp2
    go_ret
    exact ⟨Or.inl rfl, γ, (e, k, v) :: L, ⟨D4.out.keep K5.out (by simp [offM]) (by simp [offM]), M5.out, HH.out.bm, G4.out.keep K5.out (by simp [offM]) (by simp [offM]), by have := HC.out; simp; omega, HN.out⟩, by simp; omega, by omega, K4.out.trans (keepM_A K5.out), B5.out⟩
end Go.Proofs.Ytjncpidadcfncaa.Hand
