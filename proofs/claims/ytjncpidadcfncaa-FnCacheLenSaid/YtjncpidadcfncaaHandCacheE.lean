/- The cache: Get, Remove, RemoveOldest, Len, Cap, HitRate. -/
import Derived.Test.YtjncpidadcfncaaHandCacheD
import Derived.Laws.FloatArith
namespace Go.Proofs.Ytjncpidadcfncaa.Hand
open Go.RowKit Go.Proofs.YtjncpidadcfncaaW.PrintWords Go.Proofs.Ytjncpidadcfncaa.Base
open Go.Maps (Keyed)
set_option linter.unusedVariables false
set_option linter.unusedSimpArgs false

theorem Dll.setHits {w : World} {base c : Nat} {n : Int} {M : Nat} {f : Value} {L : List Ent} (H : Dll w base c n M f L) (u : Int) : Dll (w.setCell ⟨c, 5, none⟩ (.int .i64 u)) base c n M f L := by
  obtain ⟨h, m, hb⟩ := H.blk
  exact ⟨⟨u, m, blk_put hb 5 _ rfl⟩, seg_congr H.seg (fun x hx => Below.heap_setCell _ _ _ _ (H.ne x hx)), H.nodup, H.bc, H.bl⟩
theorem Dll.setMiss {w : World} {base c : Nat} {n : Int} {M : Nat} {f : Value} {L : List Ent} (H : Dll w base c n M f L) (u : Int) : Dll (w.setCell ⟨c, 6, none⟩ (.int .i64 u)) base c n M f L := by
  obtain ⟨h, m, hb⟩ := H.blk
  exact ⟨⟨h, u, blk_put hb 6 _ rfl⟩, seg_congr H.seg (fun x hx => Below.heap_setCell _ _ _ _ (H.ne x hx)), H.nodup, H.bc, H.bl⟩
theorem Dll.setKeep {w : World} {base c : Nat} {n : Int} {M : Nat} {f : Value} {L : List Ent} (H : Dll w base c n M f L) (j : Nat) (u : Value) : Keep (offT tL) w (w.setCell ⟨c, j, none⟩ u) ∧ Below base w (w.setCell ⟨c, j, none⟩ u) := by
  obtain ⟨h, m, hb⟩ := H.blk
  exact ⟨set_keep hb (by simp) j u, (Below.refl base w).setCell (p := ⟨c, j, none⟩) H.bc u⟩
theorem CacheAt.setHits {w : World} {base c g n M γ : Nat} {L : List Ent} (H : CacheAt w base c g n M γ L) (u : Int) : CacheAt (w.setCell ⟨c, 5, none⟩ (.int .i64 u)) base c g n M γ L := by
  have K := (H.dll.setKeep 5 (.int .i64 u)).1
  exact ⟨H.dll.setHits u, H.map.keep K (by simp [offT]), H.bm, H.gone.keep K (by simp [offT]) (by simp [offT]), H.cap, H.nb⟩
theorem CacheAt.setMiss {w : World} {base c g n M γ : Nat} {L : List Ent} (H : CacheAt w base c g n M γ L) (u : Int) : CacheAt (w.setCell ⟨c, 6, none⟩ (.int .i64 u)) base c g n M γ L := by
  have K := (H.dll.setKeep 6 (.int .i64 u)).1
  exact ⟨H.dll.setMiss u, H.map.keep K (by simp [offT]), H.bm, H.gone.keep K (by simp [offT]) (by simp [offT]), H.cap, H.nb⟩

set_option maxHeartbeats 4000000 in
set_option maxRecDepth 100000 in
theorem get_new (w : World) (base c g n M γ : Nat) (L : List Ent) (k : Int) (H : CacheAt w base c g n M γ L) (hn : 1 ≤ n) (hk : ∀ x ∈ L, x.2.1 ≠ k) (hw : (Lit.int .i64 k).wf = true) :
    Calls Try.prog 10 #[.pointer (some ⟨c, 0, none⟩), .int .i64 k] w fun r w' => r = .returned (.tuple #[.int .i64 0, .bool false]) ∧ After w w' base c g n M γ L 0 0 := by
  obtain ⟨h, m, hb⟩ := H.dll.blk
  have hlook := H.map.lacks hk hw
  have c0 : w.cell? ⟨c, 0, none⟩ = some (.int .i64 (n : Int)) := by rw [blk_cell hb]; rfl
  have c1 : w.cell? ⟨c, 1, none⟩ = some (.map (some M)) := by rw [blk_cell hb]; rfl
  have c6 : w.cell? ⟨c, 6, none⟩ = some (.int .i64 m) := by rw [blk_cell hb]; rfl
  have f6 : w.frozen? ⟨c, 6, none⟩ = false := blk_frozen hb 6
  have p1 : decide ((n : Int) ≤ 0) = false := decide_eq_false (by omega)
  obtain ⟨u, ew⟩ : ∃ u, IntKind.i64.wrap (m + 1) = u := ⟨_, rfl⟩
  have H1 := Aside0.mk (H.setMiss u)
  have K1 := Aside0.mk (H.dll.setKeep 6 (.int .i64 u))
  clear H hb hk
  go_enter Try.func10, Try.ntmps10
  go_wp2
  go_ret2
  exact ⟨rfl, γ, L, H1.out, by omega, by omega, keepL_A K1.out.1, K1.out.2⟩

set_option maxHeartbeats 4000000 in
set_option maxRecDepth 100000 in
theorem get_old (w : World) (base c g n M γ : Nat) (A B : List Ent) (x : Ent) (H : CacheAt w base c g n M γ (A ++ x :: B)) (hn : 1 ≤ n) :
    Calls Try.prog 10 #[.pointer (some ⟨c, 0, none⟩), .int .i64 x.2.1] w fun r w' => r = .returned (.tuple #[.int .i64 x.2.2, .bool true]) ∧ After w w' base c g n M γ (A ++ x :: B) 0 0 := by
  obtain ⟨h, m, hb⟩ := H.dll.blk
  have hlook := H.map.found (x := x) (by simp)
  have c0 : w.cell? ⟨c, 0, none⟩ = some (.int .i64 (n : Int)) := by rw [blk_cell hb]; rfl
  have c1 : w.cell? ⟨c, 1, none⟩ = some (.map (some M)) := by rw [blk_cell hb]; rfl
  have c5 : w.cell? ⟨c, 5, none⟩ = some (.int .i64 h) := by rw [blk_cell hb]; rfl
  have f5 : w.frozen? ⟨c, 5, none⟩ = false := blk_frozen hb 5
  have p1 : decide ((n : Int) ≤ 0) = false := decide_eq_false (by omega)
  obtain ⟨u, ew⟩ : ∃ u, IntKind.i64.wrap (h + 1) = u := ⟨_, rfl⟩
  have HH := Aside0.mk H
  have H1 := Aside0.mk (H.setHits u)
  have K1 := Aside0.mk (H.dll.setKeep 5 (.int .i64 u))
  clear H hb
  go_enter Try.func10, Try.ntmps10
  go_upto_region 10 with (fail)
  change Code.wp _ _ _ _ (w.setCell ⟨c, 5, none⟩ (.int .i64 u))
  clear hlook c0 c1 c5 f5 p1 ew
  generalize (w.setCell ⟨c, 5, none⟩ (.int .i64 u)) = w1 at H1 K1 ⊢
  go_upto_region 11 with (go_at_call 19; refine (moveToFront_ w1 base c n M (fnV g) A B x H1.out.dll).mono ?_; rintro e w2 ⟨rfl, hd, hk, hb⟩; have D2 := Aside0.mk hd; have K2 := Aside0.mk (K1.out.1.trans hk); have B2 := Aside0.mk (K1.out.2.trans hb); have M2 := Aside0.mk ((H1.out.map.keep hk (by simp [offT])).perm (perm_front _ _ _)); have G2 := Aside0.mk (H1.out.gone.keep hk (by simp [offT]) (by simp [offT])); clear hd hk hb)
  have hx := D2.out.seg.1
  have x1 : w2.cell? ⟨x.1, 1, none⟩ = some (.int .i64 x.2.2) := by rw [blk_cell hx]; rfl
  clear hx
  go_wp2
  go_ret2
  have hc := HH.out.cap
  refine ⟨rfl, γ, _, ⟨D2.out, M2.out, HH.out.bm, G2.out, ?_, HH.out.nb⟩, ?_, by omega, keepL_A K2.out, B2.out⟩
  · simp at hc ⊢; omega
  · simp; omega

set_option maxHeartbeats 4000000 in
set_option maxRecDepth 100000 in
theorem rem_new (w : World) (base c g n M γ : Nat) (L : List Ent) (k : Int) (H : CacheAt w base c g n M γ L) (hn : 1 ≤ n) (hk : ∀ x ∈ L, x.2.1 ≠ k) (hw : (Lit.int .i64 k).wf = true) :
    Calls Try.prog 13 #[.pointer (some ⟨c, 0, none⟩), .int .i64 k] w fun r w' => r = .returned (.bool false) ∧ After w w' base c g n M γ L 0 0 := by
  obtain ⟨h, m, hb⟩ := H.dll.blk
  have hlook := H.map.lacks hk hw
  have c0 : w.cell? ⟨c, 0, none⟩ = some (.int .i64 (n : Int)) := by rw [blk_cell hb]; rfl
  have c1 : w.cell? ⟨c, 1, none⟩ = some (.map (some M)) := by rw [blk_cell hb]; rfl
  have p1 : decide ((n : Int) ≤ 0) = false := decide_eq_false (by omega)
  have HH := Aside0.mk H
  clear H hb hk
  go_enter Try.func13, Try.ntmps13
  go_wp2
  go_ret
  exact ⟨rfl, γ, L, HH.out, by omega, by omega, Keep.refl _ _, Below.refl _ _⟩

set_option maxHeartbeats 4000000 in
set_option maxRecDepth 100000 in
theorem rem_old (w : World) (base c g n M γ : Nat) (A B : List Ent) (x : Ent) (H : CacheAt w base c g n M γ (A ++ x :: B)) (hn : 1 ≤ n) :
    Calls Try.prog 13 #[.pointer (some ⟨c, 0, none⟩), .int .i64 x.2.1] w fun r w' => r = .returned (.bool true) ∧ After w w' base c g n M γ (A ++ x :: B) 0 1 := by
  obtain ⟨h, m, hb⟩ := H.dll.blk
  have hlook := H.map.found (x := x) (by simp)
  have c0 : w.cell? ⟨c, 0, none⟩ = some (.int .i64 (n : Int)) := by rw [blk_cell hb]; rfl
  have c1 : w.cell? ⟨c, 1, none⟩ = some (.map (some M)) := by rw [blk_cell hb]; rfl
  have p1 : decide ((n : Int) ≤ 0) = false := decide_eq_false (by omega)
  have HH := Aside0.mk H
  clear H hb
  go_enter Try.func13, Try.ntmps13
  go_upto_region 7 with (go_at_call 22; refine (removeNode_ w base c n M (fnV g) A B x HH.out.dll).mono ?_; rintro e w3 ⟨rfl, hd, ho, hk, hb⟩; have D3 := Aside0.mk hd; have K3 := Aside0.mk (keepL_A hk); have B3 := Aside0.mk hb; have M3 := Aside0.mk (HH.out.map.keep hk (by simp [offT])); have G3 := Aside0.mk (HH.out.gone.keep hk (by simp [offT]) (by simp [offT])); clear hd ho hk hb)
  obtain ⟨h3, m3, hb3⟩ := D3.out.blk
  clear c0 c1 hlook
  have c1 : w3.cell? ⟨c, 1, none⟩ = some (.map (some M)) := by rw [blk_cell hb3]; rfl
  clear hb3
  obtain ⟨w5, hrun, hm5, ht5⟩ := M3.out.del 0
  have M5 := Aside0.mk hm5
  have K5 := Aside0.mk (turned_keep ht5)
  have B5 := Aside0.mk (B3.out.trans (turned_below ht5 HH.out.bm))
  clear hm5 ht5
  go_wp2
  go_ret
  have hc := HH.out.cap
  refine ⟨rfl, γ, _, ⟨D3.out.keep K5.out (by simp [offM]) (by simp [offM]), M5.out, HH.out.bm, G3.out.keep K5.out (by simp [offM]) (by simp [offM]), ?_, HH.out.nb⟩, ?_, by omega, K3.out.trans (keepM_A K5.out), B5.out⟩
  · simp at hc ⊢; omega
  · simp; omega

set_option maxHeartbeats 4000000 in
set_option maxRecDepth 100000 in
theorem oldest_none (w : World) (base c g n M γ : Nat) (H : CacheAt w base c g n M γ []) (hn : 1 ≤ n) :
    Calls Try.prog 14 #[.pointer (some ⟨c, 0, none⟩)] w fun r w' => r = .returned (.tuple #[.int .i64 0, .int .i64 0, .bool false]) ∧ After w w' base c g n M γ [] 0 0 := by
  obtain ⟨h, m, hb⟩ := H.dll.blk
  have c0 : w.cell? ⟨c, 0, none⟩ = some (.int .i64 (n : Int)) := by rw [blk_cell hb]; rfl
  have c3 : w.cell? ⟨c, 3, none⟩ = some (.pointer none) := by rw [blk_cell hb]; rfl
  have p1 : decide ((n : Int) ≤ 0) = false := decide_eq_false (by omega)
  have HH := Aside0.mk H
  clear H hb
  go_enter Try.func14, Try.ntmps14
  go_wp2
  go_ret3
  exact ⟨rfl, γ, [], HH.out, by omega, by omega, Keep.refl _ _, Below.refl _ _⟩

set_option maxHeartbeats 4000000 in
set_option maxRecDepth 100000 in
theorem oldest_some (w : World) (base c g n M γ : Nat) (A : List Ent) (x : Ent) (H : CacheAt w base c g n M γ (A ++ [x])) (hn : 1 ≤ n) (hγ : γ ≤ 1000000) :
    Calls Try.prog 14 #[.pointer (some ⟨c, 0, none⟩)] w fun r w' => r = .returned (.tuple #[.int .i64 x.2.1, .int .i64 x.2.2, .bool true]) ∧ After w w' base c g n M γ (A ++ [x]) 0 0 := by
  obtain ⟨h, m, hb⟩ := H.dll.blk
  rw [lastB_snoc] at hb
  obtain ⟨ex1, ex2, hx⟩ := seg_mem H.dll.seg x (by simp)
  have c0 : w.cell? ⟨c, 0, none⟩ = some (.int .i64 (n : Int)) := by rw [blk_cell hb]; rfl
  have c3 : w.cell? ⟨c, 3, none⟩ = some (.pointer (some ⟨x.1, 0, none⟩)) := by rw [blk_cell hb]; rfl
  have x0 : w.cell? ⟨x.1, 0, none⟩ = some (.int .i64 x.2.1) := by rw [blk_cell hx]; rfl
  have x1 : w.cell? ⟨x.1, 1, none⟩ = some (.int .i64 x.2.2) := by rw [blk_cell hx]; rfl
  have p1 : decide ((n : Int) ≤ 0) = false := decide_eq_false (by omega)
  have HH := Aside0.mk H
  clear H hb hx
  go_enter Try.func14, Try.ntmps14
  go_wp2_with (go_at_call 20; refine (removeOldest_ w base c g n M γ A x HH.out hγ).mono ?_; rintro r w2 ⟨rfl, h2, hk2, hb2⟩; have H2 := Aside0.mk h2; have K2 := Aside0.mk hk2; have B2 := Aside0.mk hb2; clear h2 hk2 hb2)
  go_ret3
  exact ⟨rfl, γ + 1, A, H2.out, by simp; omega, by omega, K2.out, B2.out⟩

set_option maxHeartbeats 4000000 in
set_option maxRecDepth 100000 in
theorem len_ (w : World) (base c g n M γ : Nat) (L : List Ent) (H : CacheAt w base c g n M γ L) (hn : 1 ≤ n) :
    Calls Try.prog 16 #[.pointer (some ⟨c, 0, none⟩)] w fun r w' => r = .returned (.int .i64 (L.length : Int)) ∧ w = w' := by
  obtain ⟨h, m, hb⟩ := H.dll.blk
  have hlen := H.map.len 3
  have c0 : w.cell? ⟨c, 0, none⟩ = some (.int .i64 (n : Int)) := by rw [blk_cell hb]; rfl
  have c1 : w.cell? ⟨c, 1, none⟩ = some (.map (some M)) := by rw [blk_cell hb]; rfl
  have p1 : decide ((n : Int) ≤ 0) = false := decide_eq_false (by omega)
  clear H hb
  go_enter Try.func16, Try.ntmps16
  go_wp2
  go_ret
  exact ⟨rfl, rfl⟩

set_option maxHeartbeats 4000000 in
set_option maxRecDepth 100000 in
theorem cap_ (w : World) (base c g n M γ : Nat) (L : List Ent) (H : CacheAt w base c g n M γ L) :
    Calls Try.prog 17 #[.pointer (some ⟨c, 0, none⟩)] w fun r w' => r = .returned (.int .i64 (n : Int)) ∧ w = w' := by
  obtain ⟨h, m, hb⟩ := H.dll.blk
  have c0 : w.cell? ⟨c, 0, none⟩ = some (.int .i64 (n : Int)) := by rw [blk_cell hb]; rfl
  clear H hb
  go_enter Try.func17, Try.ntmps17
  go_wp2
  go_ret
  exact ⟨rfl, rfl⟩

theorem quo_run (w : World) (x y : Nat) : ∃ r w', (binOp .quo 29 (.float .f64 x) (.float .f64 y)).run Try.prog w = .ok (.float .f64 r) w' ∧ (w' = w ∨ w' = w.drew) := by
  rcases h : floatBits .quo .f64 x y with _ | r
  · unfold floatBits at h
    simp only at h
    refine ⟨(Question.nanBits .f64 x y).cut (w.tape w.drawn (.nanBits .f64 x y)), w.drew, ?_, Or.inr rfl⟩
    simp only [binOp, Op.floatArith, h]
    rfl
  · exact ⟨r, w, run_float_arith w .quo _ .f64 x y r h, Or.inl rfl⟩
theorem rate_isf (x : Nat) : (Value.float .f64 x).oneCell' = true := rfl

set_option maxHeartbeats 4000000 in
set_option maxRecDepth 100000 in
theorem rate_ (w : World) (base c g n M γ : Nat) (L : List Ent) (H : CacheAt w base c g n M γ L) :
    Calls Try.prog 18 #[.pointer (some ⟨c, 0, none⟩)] w fun r w' => (∃ x, r = .returned (.float .f64 x)) ∧ After w w' base c g n M γ L 0 0 := by
  obtain ⟨h, m, hb⟩ := H.dll.blk
  have c5 : w.cell? ⟨c, 5, none⟩ = some (.int .i64 h) := by rw [blk_cell hb]; rfl
  have c6 : w.cell? ⟨c, 6, none⟩ = some (.int .i64 m) := by rw [blk_cell hb]; rfl
  obtain ⟨u, ew⟩ : ∃ u, IntKind.i64.wrap (h + m) = u := ⟨_, rfl⟩
  have HH := Aside0.mk H
  clear H hb
  by_cases hu : u = 0
  · subst hu
    go_enter Try.func18, Try.ntmps18
    go_wp2
    go_ret
    exact ⟨⟨_, rfl⟩, γ, L, HH.out, by omega, by omega, Keep.refl _ _, Below.refl _ _⟩
  · obtain ⟨r, w1, hq, hw⟩ := quo_run w (floatOfInt .f64 h) (floatOfInt .f64 u)
    have HW := Aside0.mk hw
    clear hw
    go_enter Try.func18, Try.ntmps18
    go_wp2
    go_ret
    refine ⟨⟨_, rfl⟩, ?_⟩
    rcases HW.out with rfl | rfl
    · exact ⟨γ, L, HH.out, by omega, by omega, Keep.refl _ _, Below.refl _ _⟩
    · exact ⟨γ, L, HH.out.drew, by omega, by omega, drew_keep _ _, drew_below _ _⟩
end Go.Proofs.Ytjncpidadcfncaa.Hand
