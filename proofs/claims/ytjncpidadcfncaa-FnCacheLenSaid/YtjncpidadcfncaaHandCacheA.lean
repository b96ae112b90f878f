/- The cache's line of entries: what removeNode and addToFront leave (printed by genCache.py). -/
import Derived.Test.YtjncpidadcfncaaHandCacheM
namespace Go.Proofs.Ytjncpidadcfncaa.Hand
open Go.RowKit Go.Proofs.YtjncpidadcfncaaW.PrintWords Go.Proofs.Ytjncpidadcfncaa.Base
open Go.Maps (Keyed)
set_option linter.unusedVariables false
set_option linter.unusedSimpArgs false

abbrev Bk := Nat × Array Value × TypeId
/-- The blocks of l, which are all that has turned since w0. -/
structure Blks (w0 w : World) (base : Nat) (l : List Bk) : Prop where
  at_ : ∀ x ∈ l, w.heap[x.1]? = some (.cells x.2.1 x.2.2 (0, 0)) ∧ base ≤ x.1
  nd : (l.map (·.1)).Nodup
  oth : ∀ b, (∀ x ∈ l, x.1 ≠ b) → w.heap[b]? = w0.heap[b]?
  bel : Below base w0 w
  sz : w.heap.size = w0.heap.size
theorem Blks.start {w : World} {base : Nat} {l : List Bk} (h : ∀ x ∈ l, w.heap[x.1]? = some (.cells x.2.1 x.2.2 (0, 0)) ∧ base ≤ x.1) (hn : (l.map (·.1)).Nodup) : Blks w w base l := ⟨h, hn, fun _ _ => rfl, Below.refl _ _, rfl⟩
theorem Blks.drew {w0 w : World} {base : Nat} {l : List Bk} (h : Blks w0 w base l) : Blks w0 w.drew base l := ⟨h.at_, h.nd, h.oth, h.bel.trans ⟨rfl, rfl, rfl, Nat.le_refl _, fun _ _ => rfl⟩, h.sz⟩
theorem Blks.get {w0 w : World} {base : Nat} {l : List Bk} (h : Blks w0 w base l) (i : Nat) {x : Bk} (hx : l[i]? = some x) : w.heap[x.1]? = some (.cells x.2.1 x.2.2 (0, 0)) := (h.at_ x (List.mem_of_getElem? hx)).1
theorem Blks.cell {w0 w : World} {base : Nat} {l : List Bk} (h : Blks w0 w base l) (i : Nat) {g : Nat} {cs : Array Value} {t : TypeId} (hx : l[i]? = some (g, cs, t)) (j : Nat) {u : Value} (hu : cs[j]? = some u) : w.cell? ⟨g, j, none⟩ = some u := (blk_cell (h.get i hx) j).trans hu
theorem Blks.frozen {w0 w : World} {base : Nat} {l : List Bk} (h : Blks w0 w base l) (i : Nat) {g : Nat} {cs : Array Value} {t : TypeId} (hx : l[i]? = some (g, cs, t)) (j : Nat) : w.frozen? ⟨g, j, none⟩ = false := blk_frozen (h.get i hx) j
theorem Blks.set {w0 w : World} {base : Nat} {l : List Bk} (h : Blks w0 w base l) (i : Nat) {g : Nat} {cs cs' : Array Value} {t : TypeId} (hx : l[i]? = some (g, cs, t)) (j : Nat) (u : Value) (e : cs.setIfInBounds j u = cs') : Blks w0 (w.setCell ⟨g, j, none⟩ u) base (l.set i (g, cs', t)) := by
  subst e
  have hmap : (l.set i (g, cs.setIfInBounds j u, t)).map (·.1) = l.map (·.1) := by
    apply List.ext_getElem?
    intro k
    rw [List.getElem?_map, List.getElem?_map, List.getElem?_set]
    split
    · rename_i hk
      subst hk
      have hlt := (List.getElem?_eq_some_iff.1 hx).1
      rw [if_pos hlt, hx]
      rfl
    · rfl
  have hxm := h.at_ _ (List.mem_of_getElem? hx)
  refine ⟨fun x hm => ?_, hmap ▸ h.nd, fun b hb => ?_, h.bel.trans ⟨rfl, rfl, rfl, by simp [World.setCell], fun k hk => Below.heap_setCell _ _ _ _ (by have := hxm.2; simp only; omega)⟩, by rw [← h.sz]; simp [World.setCell]⟩
  · obtain ⟨k, hk⟩ := List.getElem?_of_mem hm
    rw [List.getElem?_set] at hk
    split at hk
    · rename_i hik
      split at hk
      · cases hk
        exact ⟨blk_set hxm.1 j u, hxm.2⟩
      · cases hk
    · rename_i hik
      have hxk := h.at_ x (List.mem_of_getElem? hk)
      refine ⟨blk_far hxk.1 (fun e => ?_) u, hxk.2⟩
      have hki : k = i := by
        have h1 : (l.map (·.1))[k]? = some x.1 := by rw [List.getElem?_map, hk]; rfl
        have h2 : (l.map (·.1))[i]? = some x.1 := by rw [List.getElem?_map, hx]; exact congrArg some e.symm
        have hlt1 := (List.getElem?_eq_some_iff.1 h1).1
        have hlt2 := (List.getElem?_eq_some_iff.1 h2).1
        exact (List.getElem?_inj hlt1 h.nd).1 (h1.trans h2.symm)
      exact hik hki.symm
  · have hne : ∀ x ∈ l, x.1 ≠ b := by
      intro x hm e
      have : b ∈ (l.set i (g, cs.setIfInBounds j u, t)).map (·.1) := by rw [hmap]; exact List.mem_map.2 ⟨x, hm, e⟩
      obtain ⟨y, hy, e2⟩ := List.mem_map.1 this
      exact hb y hy e2
    exact (Below.heap_setCell _ _ _ _ (fun e => hne _ (List.mem_of_getElem? hx) e.symm)).trans (h.oth b hne)


set_option maxHeartbeats 4000000 in
set_option maxRecDepth 100000 in
theorem cut_nn (w : World) (base : Nat) (c e : Nat) (n : Int) (M : Nat) (hd tl : Option Nat) (f : Value) (h m k v : Int) (hB : Blks w w base [(c, lruC n M hd tl f h m, 52), (e, entC k v none none, 55)]) :
    Calls Try.prog 22 #[.pointer (some ⟨c, 0, none⟩), .pointer (some ⟨e, 0, none⟩)] w fun r w' => r = .returned (.tuple #[]) ∧ Blks w w' base [(c, lruC n M none none f h m, 52), (e, entC k v none none, 55)] := by
  have B0 := Aside0.mk hB
  clear hB
  have l1_2 : w.cell? ⟨e, 2, none⟩ = some (.pointer none) := B0.out.cell 1 rfl 2 rfl
  have l1_3 : w.cell? ⟨e, 3, none⟩ = some (.pointer none) := B0.out.cell 1 rfl 3 rfl
  have fz : w.frozen? ⟨c, 2, none⟩ = false := B0.out.frozen 0 rfl 2
  obtain ⟨sv, hsv⟩ : ∃ u, w.cell? ⟨c, 2, none⟩ = some u := ⟨_, B0.out.cell 0 rfl 2 rfl⟩
  go_enter Try.func22, Try.ntmps22
  go_upto_region 3 with (fail)
  have B1 := Aside0.mk (B0.out.set 0 rfl 2 (.pointer none) (cs' := lruC n M none tl f h m) rfl)
  clear l1_2 l1_3 fz hsv
  change Code.wp _ _ _ _ (w.setCell ⟨c, 2, none⟩ (.pointer none))
  generalize (w.setCell ⟨c, 2, none⟩ (.pointer none)) = w1 at B1 ⊢
  have l1_3 : w1.cell? ⟨e, 3, none⟩ = some (.pointer none) := B1.out.cell 1 rfl 3 rfl
  have l1_2 : w1.cell? ⟨e, 2, none⟩ = some (.pointer none) := B1.out.cell 1 rfl 2 rfl
  have fz : w1.frozen? ⟨c, 3, none⟩ = false := B1.out.frozen 0 rfl 3
  obtain ⟨sv, hsv⟩ : ∃ u, w1.cell? ⟨c, 3, none⟩ = some u := ⟨_, B1.out.cell 0 rfl 3 rfl⟩
  go_upto_region 6 with (fail)
  have B2 := Aside0.mk (B1.out.set 0 rfl 3 (.pointer none) (cs' := lruC n M none none f h m) rfl)
  clear l1_3 l1_2 fz hsv
  change Code.wp _ _ _ _ (w1.setCell ⟨c, 3, none⟩ (.pointer none))
  generalize (w1.setCell ⟨c, 3, none⟩ (.pointer none)) = w2 at B2 ⊢
  have fz : w2.frozen? ⟨e, 2, none⟩ = false := B2.out.frozen 1 rfl 2
  obtain ⟨sv, hsv⟩ : ∃ u, w2.cell? ⟨e, 2, none⟩ = some u := ⟨_, B2.out.cell 1 rfl 2 rfl⟩
  go_upto_region 7 with (fail)
  have B3 := Aside0.mk (B2.out.set 1 rfl 2 (.pointer none) (cs' := entC k v none none) rfl)
  clear fz hsv
  change Code.wp _ _ _ _ (w2.setCell ⟨e, 2, none⟩ (.pointer none))
  generalize (w2.setCell ⟨e, 2, none⟩ (.pointer none)) = w3 at B3 ⊢
  have fz : w3.frozen? ⟨e, 3, none⟩ = false := B3.out.frozen 1 rfl 3
  obtain ⟨sv, hsv⟩ : ∃ u, w3.cell? ⟨e, 3, none⟩ = some u := ⟨_, B3.out.cell 1 rfl 3 rfl⟩
  go_wp2
  have B4 := Aside0.mk (B3.out.set 1 rfl 3 (.pointer none) (cs' := entC k v none none) rfl)
  go_end0
  exact ⟨rfl, B4.out⟩

set_option maxHeartbeats 4000000 in
set_option maxRecDepth 100000 in
theorem cut_ns (w : World) (base : Nat) (c e : Nat) (n : Int) (M : Nat) (hd tl : Option Nat) (f : Value) (h m k v : Int) (q : Nat) (kq vq : Int) (pq nq : Option Nat) (hB : Blks w w base [(c, lruC n M hd tl f h m, 52), (e, entC k v none (some q), 55), (q, entC kq vq pq nq, 55)]) :
    Calls Try.prog 22 #[.pointer (some ⟨c, 0, none⟩), .pointer (some ⟨e, 0, none⟩)] w fun r w' => r = .returned (.tuple #[]) ∧ Blks w w' base [(c, lruC n M (some q) tl f h m, 52), (e, entC k v none none, 55), (q, entC kq vq none nq, 55)] := by
  have B0 := Aside0.mk hB
  clear hB
  have l1_2 : w.cell? ⟨e, 2, none⟩ = some (.pointer none) := B0.out.cell 1 rfl 2 rfl
  have l1_3 : w.cell? ⟨e, 3, none⟩ = some (.pointer (some ⟨q, 0, none⟩)) := B0.out.cell 1 rfl 3 rfl
  have fz : w.frozen? ⟨c, 2, none⟩ = false := B0.out.frozen 0 rfl 2
  obtain ⟨sv, hsv⟩ : ∃ u, w.cell? ⟨c, 2, none⟩ = some u := ⟨_, B0.out.cell 0 rfl 2 rfl⟩
  go_enter Try.func22, Try.ntmps22
  go_upto_region 3 with (fail)
  have B1 := Aside0.mk (B0.out.set 0 rfl 2 (.pointer (some ⟨q, 0, none⟩)) (cs' := lruC n M (some q) tl f h m) rfl)
  clear l1_2 l1_3 fz hsv
  change Code.wp _ _ _ _ (w.setCell ⟨c, 2, none⟩ (.pointer (some ⟨q, 0, none⟩)))
  generalize (w.setCell ⟨c, 2, none⟩ (.pointer (some ⟨q, 0, none⟩))) = w1 at B1 ⊢
  have l1_3 : w1.cell? ⟨e, 3, none⟩ = some (.pointer (some ⟨q, 0, none⟩)) := B1.out.cell 1 rfl 3 rfl
  have l1_2 : w1.cell? ⟨e, 2, none⟩ = some (.pointer none) := B1.out.cell 1 rfl 2 rfl
  have fz : w1.frozen? ⟨q, 2, none⟩ = false := B1.out.frozen 2 rfl 2
  obtain ⟨sv, hsv⟩ : ∃ u, w1.cell? ⟨q, 2, none⟩ = some u := ⟨_, B1.out.cell 2 rfl 2 rfl⟩
  go_wp2
  go_region
  have B2 := Aside0.mk ((B1.out.set 2 rfl 2 (.pointer none) (cs' := entC kq vq none nq) rfl).drew)
  clear l1_3 l1_2 fz hsv
  generalize (w1.setCell ⟨q, 2, none⟩ (.pointer none)).drew = w2 at B2 ⊢
  have fz : w2.frozen? ⟨e, 2, none⟩ = false := B2.out.frozen 1 rfl 2
  obtain ⟨sv, hsv⟩ : ∃ u, w2.cell? ⟨e, 2, none⟩ = some u := ⟨_, B2.out.cell 1 rfl 2 rfl⟩
  go_upto_region 7 with (fail)
  have B3 := Aside0.mk (B2.out.set 1 rfl 2 (.pointer none) (cs' := entC k v none (some q)) rfl)
  clear fz hsv
  change Code.wp _ _ _ _ (w2.setCell ⟨e, 2, none⟩ (.pointer none))
  generalize (w2.setCell ⟨e, 2, none⟩ (.pointer none)) = w3 at B3 ⊢
  have fz : w3.frozen? ⟨e, 3, none⟩ = false := B3.out.frozen 1 rfl 3
  obtain ⟨sv, hsv⟩ : ∃ u, w3.cell? ⟨e, 3, none⟩ = some u := ⟨_, B3.out.cell 1 rfl 3 rfl⟩
  go_wp2
  have B4 := Aside0.mk (B3.out.set 1 rfl 3 (.pointer none) (cs' := entC k v none none) rfl)
  go_end0
  exact ⟨rfl, B4.out⟩

set_option maxHeartbeats 4000000 in
set_option maxRecDepth 100000 in
theorem cut_sn (w : World) (base : Nat) (c e : Nat) (n : Int) (M : Nat) (hd tl : Option Nat) (f : Value) (h m k v : Int) (p : Nat) (kp vp : Int) (pp np : Option Nat) (hB : Blks w w base [(c, lruC n M hd tl f h m, 52), (e, entC k v (some p) none, 55), (p, entC kp vp pp np, 55)]) :
    Calls Try.prog 22 #[.pointer (some ⟨c, 0, none⟩), .pointer (some ⟨e, 0, none⟩)] w fun r w' => r = .returned (.tuple #[]) ∧ Blks w w' base [(c, lruC n M hd (some p) f h m, 52), (e, entC k v none none, 55), (p, entC kp vp pp none, 55)] := by
  have B0 := Aside0.mk hB
  clear hB
  have l1_2 : w.cell? ⟨e, 2, none⟩ = some (.pointer (some ⟨p, 0, none⟩)) := B0.out.cell 1 rfl 2 rfl
  have l1_3 : w.cell? ⟨e, 3, none⟩ = some (.pointer none) := B0.out.cell 1 rfl 3 rfl
  have fz : w.frozen? ⟨p, 3, none⟩ = false := B0.out.frozen 2 rfl 3
  obtain ⟨sv, hsv⟩ : ∃ u, w.cell? ⟨p, 3, none⟩ = some u := ⟨_, B0.out.cell 2 rfl 3 rfl⟩
  go_enter Try.func22, Try.ntmps22
  go_wp2
  go_region
  have B1 := Aside0.mk ((B0.out.set 2 rfl 3 (.pointer none) (cs' := entC kp vp pp none) rfl).drew)
  clear l1_2 l1_3 fz hsv
  generalize (w.setCell ⟨p, 3, none⟩ (.pointer none)).drew = w1 at B1 ⊢
  have l1_3 : w1.cell? ⟨e, 3, none⟩ = some (.pointer none) := B1.out.cell 1 rfl 3 rfl
  have l1_2 : w1.cell? ⟨e, 2, none⟩ = some (.pointer (some ⟨p, 0, none⟩)) := B1.out.cell 1 rfl 2 rfl
  have fz : w1.frozen? ⟨c, 3, none⟩ = false := B1.out.frozen 0 rfl 3
  obtain ⟨sv, hsv⟩ : ∃ u, w1.cell? ⟨c, 3, none⟩ = some u := ⟨_, B1.out.cell 0 rfl 3 rfl⟩
  go_upto_region 6 with (fail)
  have B2 := Aside0.mk (B1.out.set 0 rfl 3 (.pointer (some ⟨p, 0, none⟩)) (cs' := lruC n M hd (some p) f h m) rfl)
  clear l1_3 l1_2 fz hsv
  change Code.wp _ _ _ _ (w1.setCell ⟨c, 3, none⟩ (.pointer (some ⟨p, 0, none⟩)))
  generalize (w1.setCell ⟨c, 3, none⟩ (.pointer (some ⟨p, 0, none⟩))) = w2 at B2 ⊢
  have fz : w2.frozen? ⟨e, 2, none⟩ = false := B2.out.frozen 1 rfl 2
  obtain ⟨sv, hsv⟩ : ∃ u, w2.cell? ⟨e, 2, none⟩ = some u := ⟨_, B2.out.cell 1 rfl 2 rfl⟩
  go_upto_region 7 with (fail)
  have B3 := Aside0.mk (B2.out.set 1 rfl 2 (.pointer none) (cs' := entC k v none none) rfl)
  clear fz hsv
  change Code.wp _ _ _ _ (w2.setCell ⟨e, 2, none⟩ (.pointer none))
  generalize (w2.setCell ⟨e, 2, none⟩ (.pointer none)) = w3 at B3 ⊢
  have fz : w3.frozen? ⟨e, 3, none⟩ = false := B3.out.frozen 1 rfl 3
  obtain ⟨sv, hsv⟩ : ∃ u, w3.cell? ⟨e, 3, none⟩ = some u := ⟨_, B3.out.cell 1 rfl 3 rfl⟩
  go_wp2
  have B4 := Aside0.mk (B3.out.set 1 rfl 3 (.pointer none) (cs' := entC k v none none) rfl)
  go_end0
  exact ⟨rfl, B4.out⟩

set_option maxHeartbeats 4000000 in
set_option maxRecDepth 100000 in
theorem cut_ss (w : World) (base : Nat) (c e : Nat) (n : Int) (M : Nat) (hd tl : Option Nat) (f : Value) (h m k v : Int) (p : Nat) (kp vp : Int) (pp np : Option Nat) (q : Nat) (kq vq : Int) (pq nq : Option Nat) (hB : Blks w w base [(c, lruC n M hd tl f h m, 52), (e, entC k v (some p) (some q), 55), (p, entC kp vp pp np, 55), (q, entC kq vq pq nq, 55)]) :
    Calls Try.prog 22 #[.pointer (some ⟨c, 0, none⟩), .pointer (some ⟨e, 0, none⟩)] w fun r w' => r = .returned (.tuple #[]) ∧ Blks w w' base [(c, lruC n M hd tl f h m, 52), (e, entC k v none none, 55), (p, entC kp vp pp (some q), 55), (q, entC kq vq (some p) nq, 55)] := by
  have B0 := Aside0.mk hB
  clear hB
  have l1_2 : w.cell? ⟨e, 2, none⟩ = some (.pointer (some ⟨p, 0, none⟩)) := B0.out.cell 1 rfl 2 rfl
  have l1_3 : w.cell? ⟨e, 3, none⟩ = some (.pointer (some ⟨q, 0, none⟩)) := B0.out.cell 1 rfl 3 rfl
  have fz : w.frozen? ⟨p, 3, none⟩ = false := B0.out.frozen 2 rfl 3
  obtain ⟨sv, hsv⟩ : ∃ u, w.cell? ⟨p, 3, none⟩ = some u := ⟨_, B0.out.cell 2 rfl 3 rfl⟩
  go_enter Try.func22, Try.ntmps22
  go_wp2
  go_region
  have B1 := Aside0.mk ((B0.out.set 2 rfl 3 (.pointer (some ⟨q, 0, none⟩)) (cs' := entC kp vp pp (some q)) rfl).drew)
  clear l1_2 l1_3 fz hsv
  generalize (w.setCell ⟨p, 3, none⟩ (.pointer (some ⟨q, 0, none⟩))).drew = w1 at B1 ⊢
  have l1_3 : w1.cell? ⟨e, 3, none⟩ = some (.pointer (some ⟨q, 0, none⟩)) := B1.out.cell 1 rfl 3 rfl
  have l1_2 : w1.cell? ⟨e, 2, none⟩ = some (.pointer (some ⟨p, 0, none⟩)) := B1.out.cell 1 rfl 2 rfl
  have fz : w1.frozen? ⟨q, 2, none⟩ = false := B1.out.frozen 3 rfl 2
  obtain ⟨sv, hsv⟩ : ∃ u, w1.cell? ⟨q, 2, none⟩ = some u := ⟨_, B1.out.cell 3 rfl 2 rfl⟩
  go_wp2
  go_region
  have B2 := Aside0.mk ((B1.out.set 3 rfl 2 (.pointer (some ⟨p, 0, none⟩)) (cs' := entC kq vq (some p) nq) rfl).drew)
  clear l1_3 l1_2 fz hsv
  generalize (w1.setCell ⟨q, 2, none⟩ (.pointer (some ⟨p, 0, none⟩))).drew = w2 at B2 ⊢
  have fz : w2.frozen? ⟨e, 2, none⟩ = false := B2.out.frozen 1 rfl 2
  obtain ⟨sv, hsv⟩ : ∃ u, w2.cell? ⟨e, 2, none⟩ = some u := ⟨_, B2.out.cell 1 rfl 2 rfl⟩
  go_upto_region 7 with (fail)
  have B3 := Aside0.mk (B2.out.set 1 rfl 2 (.pointer none) (cs' := entC k v none (some q)) rfl)
  clear fz hsv
  change Code.wp _ _ _ _ (w2.setCell ⟨e, 2, none⟩ (.pointer none))
  generalize (w2.setCell ⟨e, 2, none⟩ (.pointer none)) = w3 at B3 ⊢
  have fz : w3.frozen? ⟨e, 3, none⟩ = false := B3.out.frozen 1 rfl 3
  obtain ⟨sv, hsv⟩ : ∃ u, w3.cell? ⟨e, 3, none⟩ = some u := ⟨_, B3.out.cell 1 rfl 3 rfl⟩
  go_wp2
  have B4 := Aside0.mk (B3.out.set 1 rfl 3 (.pointer none) (cs' := entC k v none none) rfl)
  go_end0
  exact ⟨rfl, B4.out⟩

set_option maxHeartbeats 4000000 in
set_option maxRecDepth 100000 in
theorem add_n (w : World) (base : Nat) (c e : Nat) (n : Int) (M : Nat) (f : Value) (h m k v : Int) (pe ne : Option Nat) (hB : Blks w w base [(c, lruC n M none none f h m, 52), (e, entC k v pe ne, 55)]) :
    Calls Try.prog 21 #[.pointer (some ⟨c, 0, none⟩), .pointer (some ⟨e, 0, none⟩)] w fun r w' => r = .returned (.tuple #[]) ∧ Blks w w' base [(c, lruC n M (some e) (some e) f h m, 52), (e, entC k v none none, 55)] := by
  have B0 := Aside0.mk hB
  clear hB
  have fz : w.frozen? ⟨e, 2, none⟩ = false := B0.out.frozen 1 rfl 2
  obtain ⟨sv, hsv⟩ : ∃ u, w.cell? ⟨e, 2, none⟩ = some u := ⟨_, B0.out.cell 1 rfl 2 rfl⟩
  go_enter Try.func21, Try.ntmps21
  go_upto_region 1 with (fail)
  have B1 := Aside0.mk (B0.out.set 1 rfl 2 (.pointer none) (cs' := entC k v none ne) rfl)
  clear fz hsv
  change Code.wp _ _ _ _ (w.setCell ⟨e, 2, none⟩ (.pointer none))
  generalize (w.setCell ⟨e, 2, none⟩ (.pointer none)) = w1 at B1 ⊢
  have l0_2 : w1.cell? ⟨c, 2, none⟩ = some (.pointer none) := B1.out.cell 0 rfl 2 rfl
  have fz : w1.frozen? ⟨e, 3, none⟩ = false := B1.out.frozen 1 rfl 3
  obtain ⟨sv, hsv⟩ : ∃ u, w1.cell? ⟨e, 3, none⟩ = some u := ⟨_, B1.out.cell 1 rfl 3 rfl⟩
  go_upto_region 2 with (fail)
  have B2 := Aside0.mk (B1.out.set 1 rfl 3 (.pointer none) (cs' := entC k v none none) rfl)
  clear l0_2 fz hsv
  change Code.wp _ _ _ _ (w1.setCell ⟨e, 3, none⟩ (.pointer none))
  generalize (w1.setCell ⟨e, 3, none⟩ (.pointer none)) = w2 at B2 ⊢
  have l0_2 : w2.cell? ⟨c, 2, none⟩ = some (.pointer none) := B2.out.cell 0 rfl 2 rfl
  have fz : w2.frozen? ⟨c, 2, none⟩ = false := B2.out.frozen 0 rfl 2
  go_upto_region 5 with (fail)
  have B3 := Aside0.mk (B2.out.set 0 rfl 2 (.pointer (some ⟨e, 0, none⟩)) (cs' := lruC n M (some e) none f h m) rfl)
  clear l0_2 fz
  change Code.wp _ _ _ _ (w2.setCell ⟨c, 2, none⟩ (.pointer (some ⟨e, 0, none⟩)))
  generalize (w2.setCell ⟨c, 2, none⟩ (.pointer (some ⟨e, 0, none⟩))) = w3 at B3 ⊢
  have l0_3 : w3.cell? ⟨c, 3, none⟩ = some (.pointer none) := B3.out.cell 0 rfl 3 rfl
  have fz : w3.frozen? ⟨c, 3, none⟩ = false := B3.out.frozen 0 rfl 3
  go_wp2
  have B4 := Aside0.mk (B3.out.set 0 rfl 3 (.pointer (some ⟨e, 0, none⟩)) (cs' := lruC n M (some e) (some e) f h m) rfl)
  go_end0
  exact ⟨rfl, B4.out⟩

set_option maxHeartbeats 4000000 in
set_option maxRecDepth 100000 in
theorem add_s (w : World) (base : Nat) (c e : Nat) (n : Int) (M : Nat) (f : Value) (h m k v : Int) (pe ne : Option Nat) (tl p : Nat) (kp vp : Int) (pp np : Option Nat) (hB : Blks w w base [(c, lruC n M (some p) (some tl) f h m, 52), (e, entC k v pe ne, 55), (p, entC kp vp pp np, 55)]) :
    Calls Try.prog 21 #[.pointer (some ⟨c, 0, none⟩), .pointer (some ⟨e, 0, none⟩)] w fun r w' => r = .returned (.tuple #[]) ∧ Blks w w' base [(c, lruC n M (some e) (some tl) f h m, 52), (e, entC k v none (some p), 55), (p, entC kp vp (some e) np, 55)] := by
  have B0 := Aside0.mk hB
  clear hB
  have fz : w.frozen? ⟨e, 2, none⟩ = false := B0.out.frozen 1 rfl 2
  obtain ⟨sv, hsv⟩ : ∃ u, w.cell? ⟨e, 2, none⟩ = some u := ⟨_, B0.out.cell 1 rfl 2 rfl⟩
  go_enter Try.func21, Try.ntmps21
  go_upto_region 1 with (fail)
  have B1 := Aside0.mk (B0.out.set 1 rfl 2 (.pointer none) (cs' := entC k v none ne) rfl)
  clear fz hsv
  change Code.wp _ _ _ _ (w.setCell ⟨e, 2, none⟩ (.pointer none))
  generalize (w.setCell ⟨e, 2, none⟩ (.pointer none)) = w1 at B1 ⊢
  have l0_2 : w1.cell? ⟨c, 2, none⟩ = some (.pointer (some ⟨p, 0, none⟩)) := B1.out.cell 0 rfl 2 rfl
  have fz : w1.frozen? ⟨e, 3, none⟩ = false := B1.out.frozen 1 rfl 3
  obtain ⟨sv, hsv⟩ : ∃ u, w1.cell? ⟨e, 3, none⟩ = some u := ⟨_, B1.out.cell 1 rfl 3 rfl⟩
  go_upto_region 2 with (fail)
  have B2 := Aside0.mk (B1.out.set 1 rfl 3 (.pointer (some ⟨p, 0, none⟩)) (cs' := entC k v none (some p)) rfl)
  clear l0_2 fz hsv
  change Code.wp _ _ _ _ (w1.setCell ⟨e, 3, none⟩ (.pointer (some ⟨p, 0, none⟩)))
  generalize (w1.setCell ⟨e, 3, none⟩ (.pointer (some ⟨p, 0, none⟩))) = w2 at B2 ⊢
  have l0_2 : w2.cell? ⟨c, 2, none⟩ = some (.pointer (some ⟨p, 0, none⟩)) := B2.out.cell 0 rfl 2 rfl
  have fz : w2.frozen? ⟨p, 2, none⟩ = false := B2.out.frozen 2 rfl 2
  obtain ⟨sv, hsv⟩ : ∃ u, w2.cell? ⟨p, 2, none⟩ = some u := ⟨_, B2.out.cell 2 rfl 2 rfl⟩
  go_upto_region 4 with (fail)
  have B3 := Aside0.mk (B2.out.set 2 rfl 2 (.pointer (some ⟨e, 0, none⟩)) (cs' := entC kp vp (some e) np) rfl)
  clear l0_2 fz hsv
  change Code.wp _ _ _ _ (w2.setCell ⟨p, 2, none⟩ (.pointer (some ⟨e, 0, none⟩)))
  generalize (w2.setCell ⟨p, 2, none⟩ (.pointer (some ⟨e, 0, none⟩))) = w3 at B3 ⊢
  have l0_2 : w3.cell? ⟨c, 2, none⟩ = some (.pointer (some ⟨p, 0, none⟩)) := B3.out.cell 0 rfl 2 rfl
  have fz : w3.frozen? ⟨c, 2, none⟩ = false := B3.out.frozen 0 rfl 2
  go_upto_region 5 with (fail)
  have B4 := Aside0.mk (B3.out.set 0 rfl 2 (.pointer (some ⟨e, 0, none⟩)) (cs' := lruC n M (some e) (some tl) f h m) rfl)
  clear l0_2 fz
  change Code.wp _ _ _ _ (w3.setCell ⟨c, 2, none⟩ (.pointer (some ⟨e, 0, none⟩)))
  generalize (w3.setCell ⟨c, 2, none⟩ (.pointer (some ⟨e, 0, none⟩))) = w4 at B4 ⊢
  have l0_3 : w4.cell? ⟨c, 3, none⟩ = some (.pointer (some ⟨tl, 0, none⟩)) := B4.out.cell 0 rfl 3 rfl
  go_wp2
  go_end0
  exact ⟨rfl, B4.out⟩
end Go.Proofs.Ytjncpidadcfncaa.Hand
