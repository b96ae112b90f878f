/- The cache: a script of calls. -/
import Derived.Test.YtjncpidadcfncaaHandCacheH
namespace Go.Proofs.Ytjncpidadcfncaa.Hand
open Go.RowKit Go.Proofs.YtjncpidadcfncaaW.PrintWords Go.Proofs.Ytjncpidadcfncaa.Base
open Go.Maps (Keyed)
open Go.Proofs.Ytjncpidadcfncaa.PFnCacheLen (S25 k25 z25 rd_T25 at_T25)
set_option linter.unusedVariables false
set_option linter.unusedSimpArgs false

/-- What a call leaves, whichever map it is then. -/
def Aft (w w' : World) (base c g n γ : Nat) (L : List Ent) (a r : Nat) : Prop :=
  ∃ M' γ' L', CacheAt w' base c g n M' γ' L' ∧ L'.length + γ' + r = L.length + γ + a ∧ Keep (offM tA) w w' ∧ Below base w w'
theorem After.aft {w w' : World} {base c g n M γ : Nat} {L : List Ent} {a r : Nat} (h : After w w' base c g n M γ L a r) : Aft w w' base c g n γ L a r := by
  obtain ⟨γ', L', h1, h2, h3, h4, h5⟩ := h
  exact ⟨M, γ', L', h1, h2, h4, h5⟩
theorem add_any (w : World) (base c g n M γ : Nat) (L : List Ent) (k v : Int) (H : CacheAt w base c g n M γ L) (hn : 1 ≤ n) (hw : (Lit.int .i64 k).wf = true) (hγ : γ ≤ 1000000) :
    Calls Try.prog 9 #[.pointer (some ⟨c, 0, none⟩), .int .i64 k, .int .i64 v] w fun r w' => ∃ b a, r = .returned (.bool b) ∧ a ≤ 1 ∧ Aft w w' base c g n γ L a 0 := by
  by_cases hp : ∃ x ∈ L, x.2.1 = k
  · obtain ⟨x, hx, rfl⟩ := hp
    obtain ⟨A, B, rfl⟩ := List.append_of_mem hx
    exact (add_old w base c g n M γ A B x v H hn).mono (fun r w' h => ⟨_, 0, h.1, by omega, h.2.aft⟩)
  · refine (add_new w base c g n M γ L k v H hn (fun x hx e => hp ⟨x, hx, e⟩) hw hγ).mono (fun r w' h => ?_)
    obtain ⟨b, h1, h2⟩ := h
    exact ⟨b, 1, h1, by omega, h2.aft⟩
theorem get_any (w : World) (base c g n M γ : Nat) (L : List Ent) (k : Int) (H : CacheAt w base c g n M γ L) (hn : 1 ≤ n) (hw : (Lit.int .i64 k).wf = true) :
    Calls Try.prog 10 #[.pointer (some ⟨c, 0, none⟩), .int .i64 k] w fun r w' => ∃ v b, r = .returned (.tuple #[.int .i64 v, .bool b]) ∧ Aft w w' base c g n γ L 0 0 := by
  by_cases hp : ∃ x ∈ L, x.2.1 = k
  · obtain ⟨x, hx, rfl⟩ := hp
    obtain ⟨A, B, rfl⟩ := List.append_of_mem hx
    exact (get_old w base c g n M γ A B x H hn).mono (fun r w' h => ⟨_, _, h.1, h.2.aft⟩)
  · exact (get_new w base c g n M γ L k H hn (fun x hx e => hp ⟨x, hx, e⟩) hw).mono (fun r w' h => ⟨_, _, h.1, h.2.aft⟩)
theorem rem_any (w : World) (base c g n M γ : Nat) (L : List Ent) (k : Int) (H : CacheAt w base c g n M γ L) (hn : 1 ≤ n) (hw : (Lit.int .i64 k).wf = true) :
    Calls Try.prog 13 #[.pointer (some ⟨c, 0, none⟩), .int .i64 k] w fun r w' => ∃ b, r = .returned (.bool b) ∧ Aft w w' base c g n γ L 0 (if b = true then 1 else 0) := by
  by_cases hp : ∃ x ∈ L, x.2.1 = k
  · obtain ⟨x, hx, rfl⟩ := hp
    obtain ⟨A, B, rfl⟩ := List.append_of_mem hx
    exact (rem_old w base c g n M γ A B x H hn).mono (fun r w' h => ⟨true, h.1, h.2.aft⟩)
  · exact (rem_new w base c g n M γ L k H hn (fun x hx e => hp ⟨x, hx, e⟩) hw).mono (fun r w' h => ⟨false, h.1, h.2.aft⟩)
theorem oldest_any (w : World) (base c g n M γ : Nat) (L : List Ent) (H : CacheAt w base c g n M γ L) (hn : 1 ≤ n) (hγ : γ ≤ 1000000) :
    Calls Try.prog 14 #[.pointer (some ⟨c, 0, none⟩)] w fun r w' => ∃ k v b, r = .returned (.tuple #[.int .i64 k, .int .i64 v, .bool b]) ∧ Aft w w' base c g n γ L 0 0 := by
  rcases List.eq_nil_or_concat L with rfl | ⟨A, x, rfl⟩
  · exact (oldest_none w base c g n M γ H hn).mono (fun r w' h => ⟨_, _, _, h.1, h.2.aft⟩)
  · rw [List.concat_eq_append] at *
    exact (oldest_some w base c g n M γ A x H hn hγ).mono (fun r w' h => ⟨_, _, _, h.1, h.2.aft⟩)
theorem purge_any (w : World) (base c g n M γ : Nat) (L : List Ent) (H : CacheAt w base c g n M γ L) (hn : 1 ≤ n) (hγ : γ ≤ 100000) :
    Calls Try.prog 15 #[.pointer (some ⟨c, 0, none⟩)] w fun r w' => r = .returned (.tuple #[]) ∧ Aft w w' base c g n γ L 0 0 := by
  refine (purge_ w base c g n M γ L H hn hγ).mono (fun r w' h => ?_)
  obtain ⟨h1, M', γ', h2, h3, h4, h5⟩ := h
  exact ⟨h1, M', γ', [], h2, by simp; omega, h4, h5⟩
theorem compute_any (w : World) (base c g n M γ : Nat) (L : List Ent) (k v : Int) (H : CacheAt w base c g n M γ L) (hn : 1 ≤ n) (hw : (Lit.int .i64 k).wf = true) (hγ : γ ≤ 1000000)
    (o x : Nat) (d k0 : Int) (gv : Value) (ok : Bool) (key val : Int) (rate : Nat) (asked : Bool) (ho : w.heap[o]? = some (.cells (outC ok key val rate asked gv) 32 (0, 0))) (hx : w.heap[x]? = some (.cells #[.int .i64 d, .int .i64 k0, .int .i64 v] 25 (0, 0))) (hbo : base ≤ o) :
    Calls Try.prog 11 #[.pointer (some ⟨c, 0, none⟩), .int .i64 k, .func (.func 12) #[] #[.pointer (some ⟨o, 0, none⟩), .pointer (some ⟨x, 0, none⟩)]] w fun r w' => ∃ v' a as' w1, r = .returned (.int .i64 v') ∧ a ≤ 1 ∧ w1.heap[o]? = some (.cells (outC ok key val rate as' gv) 32 (0, 0)) ∧ (∀ b, b ≠ o → w1.heap[b]? = w.heap[b]?) ∧ Below base w w1 ∧ Aft w1 w' base c g n γ L a 0 := by
  by_cases hp : ∃ x ∈ L, x.2.1 = k
  · obtain ⟨y, hy, rfl⟩ := hp
    obtain ⟨A, B, rfl⟩ := List.append_of_mem hy
    exact (compute_old w base c g n M γ A B y _ H hn).mono (fun r w' h => ⟨_, 0, asked, w, h.1, by omega, ho, fun _ _ => rfl, Below.refl _ _, h.2.aft⟩)
  · exact (compute_new w base c g n M γ L k v H hn (fun x hx e => hp ⟨x, hx, e⟩) hw hγ o x d k0 gv ok key val rate asked ho hx hbo).mono (fun r w' h => ⟨_, 1, true, w.setCell ⟨o, 4, none⟩ (.bool true), h.1, by omega, blk_put ho 4 _ rfl, fun b hb => Below.heap_setCell _ _ _ _ hb, (Below.refl base w).setCell (p := ⟨o, 4, none⟩) hbo _, h.2.aft⟩)

theorem R_keepA {w w' : World} {base : Nat} {ok : Nat → Prop} {v : Value} {xs : List Out3} (h : kOut.R 32 w base ok v xs) (K : Keep (offM tA) w w') : kOut.R 32 w' base ok v xs := by
  refine Kd.R_mono (Kd.R_move (Kd.R_bound h) (fun k hk => ?_)) (fun _ hk => hk.1)
  obtain ⟨_, _, _, q, hq, cells, hc⟩ := hk
  have : q = 32 := by simpa [kOut] using hq
  subst this
  rw [hc]
  exact K _ _ hc (by simp [offM])
theorem CacheAt.reset {w : World} {base c g n M γ : Nat} {L : List Ent} (H : CacheAt w base c g n M γ L) : CacheAt (w.setCell ⟨g, 0, none⟩ (.slice none 0 0)) base c g n M 0 L ∧ Below base w (w.setCell ⟨g, 0, none⟩ (.slice none 0 0)) := by
  obtain ⟨hb, v, xs, hl, hg, hr⟩ := H.gone
  have K := set_keep hg (S := tG) (by simp) 0 (.slice none 0 0)
  exact ⟨⟨H.dll.keep K (by simp [offT]) (by simp [offT]), H.map.keep K (by simp [offT]), H.bm, ⟨hb, _, [], rfl, blk_put hg 0 _ rfl, Kd.R_nil _ _ _ _ _⟩, H.cap, H.nb⟩, (Below.refl base w).setCell (p := ⟨g, 0, none⟩) hb _⟩
/-- Behind the calls of a script's round: the cache, what the call gave so far, the row of what was given. -/
def Mid (w w0 : World) (base c g n ob : Nat) (v10 : Value) (outs : List Out3) (d : Int) (l : Nat) : Prop :=
  ∃ (M γ : Nat) (L : List Ent) (ok : Bool) (key val : Int) (rate : Nat) (asked : Bool), CacheAt w base c g n M γ L ∧ w.heap[ob]? = some (.cells (outC ok key val rate asked (.slice none 0 0)) 32 (0, 0)) ∧
    kOut.R 32 w base (fun k => k < ob) v10 outs ∧ Below base w0 w ∧ St n d l (ok, val, γ) L.length

theorem R_empty {α : Type} (d : Kd α) (e : Nat) (w : World) {base b : Nat} (hb : base ≤ b) (h : w.heap[b]? = some (.cells #[] e (0, 0))) : d.R e w base (fun _ => True) (.slice (some ⟨b, 0, none⟩) 0 0) [] :=
  ⟨fun _ _ => trivial, [], ⟨by simp, .inr ⟨b, 0, #[], rfl, hb, h, Nat.le_refl _, by unfold maxLen; omega, by simp, by simp⟩⟩, Reps.none _ _⟩
theorem store_float (P : Program) (w : World) (a : Addr) (k : FloatKind) (b : Nat) (m : Mode) : (store a (.float k b) m).run P w = stored P w a (.float k b) m := run_store P w a _ m rfl
attribute [local go_sem] store_float
set_option maxHeartbeats 8000000 in
set_option maxRecDepth 100000 in
theorem cacheRun (w : World) (n : Nat) (A0 : Option Addr) (c0 : Nat) (l : List S25) (hr : Kd.C k25 w A0 l.length l) (hn : 1 ≤ n) (hn2 : n ≤ 1000) (hl : l.length ≤ 100000) (hwf : ∀ x ∈ l, (Lit.int .i64 x.f1).wf = true) :
    Calls Try.prog 5 #[.int .i64 (n : Int), .bool true, .slice A0 l.length c0] w fun r w' => ∃ v outs l', r = .returned (.tuple #[v, .bool true]) ∧ kOut.R 32 w' w.heap.size (fun _ => True) v outs ∧ RunTo n 0 (l.map (·.f0)) outs l' ∧ Below w.heap.size w w' := by
  have HR := Aside0.mk hr
  have HWF := Aside0.mk hwf
  clear hr hwf
  go_enter Try.func5, Try.ntmps5
  go_upto_region 2 with (fail)
  have B1 := Aside0.mk (below_alloc (Below.refl w.heap.size w) (.cells #[.slice none 0 0] 30))
  have G1 := Aside0.mk (blk_new w (.cells #[.slice none 0 0] 30))
  obtain ⟨g, hg⟩ : ∃ g, w.heap.size = g := ⟨_, rfl⟩
  have HG : Aside0 (w.heap.size ≤ g) := ⟨by omega⟩
  rw [hg] at G1
  try rw [hg]
  change Code.wp _ _ _ _ (w.alloc (.cells #[.slice none 0 0] 30))
  clear hg
  generalize (w.alloc (.cells #[.slice none 0 0] 30)) = w1 at B1 G1 ⊢
  go_upto_region 5 with (first
    | (go_at_call 6; refine (newLRU w1 n hn hn2).mono ?_; rintro r w2 ⟨c9, rfl, hb⟩; have B2 := Aside0.mk hb; have G2 := Aside0.mk (blk_below G1.out hb); have BB2 := Aside0.mk (B1.out.trans (hb.mono B1.out.size)); clear hb)
    | (go_at_call 7; refine (newEvict w2 n (fnV g) hn hn2 (.inr ⟨g, rfl⟩)).mono ?_; rintro r w3 ⟨c, M, rfl, hc, hM, hcs, hMs, hb⟩; have G3 := Aside0.mk (blk_below G2.out hb); have B3 := Aside0.mk (BB2.out.trans (hb.mono BB2.out.size)); have C3 := Aside0.mk hc; have M3 := Aside0.mk hM; have HC := Aside0.mk (Nat.le_trans BB2.out.size hcs); have HM := Aside0.mk (Nat.le_trans BB2.out.size hMs); clear hc hM hcs hMs hb))
  have H3 : Aside0 (CacheAt w3 w.heap.size c g n M 0 []) := ⟨⟨⟨⟨0, 0, C3.out⟩, trivial, by simp, HC.out, by simp⟩, MapOf.made M3.out, HM.out, ⟨HG.out, _, [], rfl, G3.out, Kd.R_nil _ _ _ _ _⟩, by simp, hn2⟩⟩
  clear B1 G1 B2 G2 BB2 G3 C3 M3 HC HM HG
  go_wp2
  have O4 : Aside0 (kOut.R 32 (w3.alloc (.cells #[] 32)) w.heap.size (fun _ => True) (.slice (some ⟨w3.heap.size, 0, none⟩) 0 0) []) := ⟨R_empty _ _ _ B3.out.size (blk_new w3 _)⟩
  have H4 := Aside0.mk (H3.out.keep (alloc_keep (offT []) w3 (.cells #[] 32)) (by simp [offT]) (by simp [offT]))
  have B4 := Aside0.mk (below_alloc B3.out (.cells #[] 32))
  clear H3 B3
  generalize (w3.alloc (.cells #[] 32)) = w4 at O4 H4 B4 ⊢
  obtain ⟨v10, hv10⟩ : ∃ v, Value.slice (some ⟨w3.heap.size, 0, none⟩) 0 0 = v := ⟨_, rfl⟩
  rw [hv10] at O4
  rw [hv10]
  clear hv10
  go_loopg [10, 25] l.length (fun kq v10 v25 w' => ∃ (i M γ : Nat) (L : List Ent) (outs : List Out3), v25 = .int .i64 (i : Int) ∧ Aside0 (i + kq = l.length) ∧ Aside0 (kOut.R 32 w' w.heap.size (fun _ => True) v10 outs) ∧ Aside0 (CacheAt w' w.heap.size c g n M γ L) ∧ Aside0 (RunTo n 0 ((l.take i).map (·.f0)) outs L.length) ∧ Aside0 (Below w.heap.size w w'))
  case atStart => exact ⟨0, M, 0, [], [], rfl, ⟨by omega⟩, O4, H4, ⟨by simp [RunTo]⟩, B4⟩
  case round =>
    clear O4 H4 B4
    obtain ⟨i, M, γ, L, outs, rfl, HI, HO, HC, HRT, HB⟩ := hrel
    by_cases hi : i < l.length
    · obtain ⟨ad, e, hx0, hx1, hx2⟩ := at_T25 (Kd.C_below HR.out HB.out) (i : Int) (by omega) (by omega)
      cases e
      obtain ⟨x, hx⟩ : ∃ x, rd_T25 l (i : Int) = x := ⟨_, rfl⟩
      have hxl : l[i] = x := by rw [← hx]; simp [rd_T25, List.getD, hi]
      have hwx := HWF.out x (by rw [← hxl]; exact List.getElem_mem hi)
      have HT : Aside0 ((l.take (i + 1)).map (·.f0) = (l.take i).map (·.f0) ++ [x.f0]) := ⟨by rw [List.take_succ_eq_append_getElem hi, hxl]; simp⟩
      rw [hx, Int.toNat_natCast] at hx0 hx1 hx2
      obtain ⟨xd, hxd⟩ : ∃ y, x.f0 = y := ⟨_, rfl⟩
      obtain ⟨xk, hxk⟩ : ∃ y, x.f1 = y := ⟨_, rfl⟩
      obtain ⟨xv, hxv⟩ : ∃ y, x.f2 = y := ⟨_, rfl⟩
      rw [hxd] at hx0 HT
      rw [hxk] at hx1 hwx
      rw [hxv] at hx2
      have p1 : decide ((i : Int) < (l.length : Int)) = true := decide_eq_true (by omega)
      clear hx hxl hxd hxk hxv
      go_upto_region 11 with (fail)
      have X1 := Aside0.mk (blk_new wr (.cells #[.int .i64 xd, .int .i64 xk, .int .i64 xv] 25))
      have C1 := Aside0.mk (HC.out.keep (alloc_keep (offT []) wr (.cells #[.int .i64 xd, .int .i64 xk, .int .i64 xv] 25)) (by simp [offT]) (by simp [offT]))
      have O1 := Aside0.mk (Kd.R_below HO.out (below_alloc (Below.refl wr.heap.size wr) (.cells #[.int .i64 xd, .int .i64 xk, .int .i64 xv] 25)))
      have B1 := Aside0.mk (below_alloc HB.out (.cells #[.int .i64 xd, .int .i64 xk, .int .i64 xv] 25))
      obtain ⟨xb, hxb⟩ : ∃ xb, wr.heap.size = xb := ⟨_, rfl⟩
      have HX : Aside0 (w.heap.size ≤ xb) := ⟨by rw [← hxb]; exact HB.out.size⟩
      rw [hxb] at X1
      try rw [hxb]
      clear hx0 hx1 hx2 p1 HO HB hxb
      change Code.wp _ _ _ _ (wr.alloc (.cells #[.int .i64 xd, .int .i64 xk, .int .i64 xv] 25))
      generalize (wr.alloc (.cells #[.int .i64 xd, .int .i64 xk, .int .i64 xv] 25)) = w1 at X1 C1 O1 B1 ⊢
      obtain ⟨gb, gv, gxs, gl, hg, gr⟩ := C1.out.gone
      have g0 : w1.cell? ⟨g, 0, none⟩ = some gv := by rw [blk_cell hg]; rfl
      have f0 : w1.frozen? ⟨g, 0, none⟩ = false := blk_frozen hg 0
      have X2 := Aside0.mk (blk_far X1.out (blk_ne' X1.out hg (by decide)) (p := ⟨g, 0, none⟩) (.slice none 0 0))
      have C2 := Aside0.mk C1.out.reset.1
      have O2 := Aside0.mk (Kd.R_set O1.out hg (fun q hq => by have hq : q = 32 := by simpa [kOut] using hq
                                                               subst hq; decide) 0 (.slice none 0 0))
      have B2 := Aside0.mk (B1.out.trans C1.out.reset.2)
      clear gl hg gr gb
      go_upto_region 12 with (fail)
      change Code.wp _ _ _ _ (w1.setCell ⟨g, 0, none⟩ (.slice none 0 0))
      clear g0 f0 X1 C1 O1 B1
      generalize (w1.setCell ⟨g, 0, none⟩ (.slice none 0 0)) = w2 at X2 C2 O2 B2 ⊢
      go_upto_region 13 with (fail)
      obtain ⟨ob, hob⟩ : ∃ ob, w2.heap.size = ob := ⟨_, rfl⟩
      have HOB : Aside0 (w.heap.size ≤ ob) := ⟨by rw [← hob]; exact B2.out.size⟩
      have X3 := Aside0.mk (blk_alloc X2.out (.cells (outC false 0 0 0 false (.slice none 0 0)) 32))
      have C3 := Aside0.mk (C2.out.keep (alloc_keep (offT []) w2 (.cells (outC false 0 0 0 false (.slice none 0 0)) 32)) (by simp [offT]) (by simp [offT]))
      have O3 : Aside0 (kOut.R 32 (w2.alloc (.cells (outC false 0 0 0 false (.slice none 0 0)) 32)) w.heap.size (fun k => k < ob) u10 outs) := ⟨by
        refine Kd.R_mono (Kd.R_below (Kd.R_bound O2.out) (below_alloc (Below.refl w2.heap.size w2) _)) (fun k hk => ?_)
        have := hk.2.2.1
        omega⟩
      have B3 := Aside0.mk (below_alloc B2.out (.cells (outC false 0 0 0 false (.slice none 0 0)) 32))
      have OB := Aside0.mk (blk_new w2 (.cells (outC false 0 0 0 false (.slice none 0 0)) 32))
      rw [hob] at OB
      try rw [hob]
      change Code.wp _ _ _ _ (w2.alloc (.cells (outC false 0 0 0 false (.slice none 0 0)) 32))
      clear X2 C2 O2 B2 hob
      generalize (w2.alloc (.cells (outC false 0 0 0 false (.slice none 0 0)) 32)) = w3 at X3 C3 O3 B3 OB ⊢
      have xx0 : w3.cell? ⟨xb, 0, none⟩ = some (.int .i64 xd) := by rw [blk_cell X3.out]; rfl
      go_upto_block 2 with (fail)
      clear xx0
      go_cut [] from 32 to 32 (fun wc => Aside0 (Mid wc w w.heap.size c g n ob u10 outs xd L.length))
      case first =>
        by_cases h0 : xd = 0
        · subst h0
          have x1 : w3.cell? ⟨xb, 1, none⟩ = some (.int .i64 xk) := by rw [blk_cell X3.out]; rfl
          have x2 : w3.cell? ⟨xb, 2, none⟩ = some (.int .i64 xv) := by rw [blk_cell X3.out]; rfl
          have OB3 := OB.out
          have R3 := O3.out
          go_wp2_with (go_at_call 9; refine (add_any w3 w.heap.size c g n M 0 L xk xv C3.out hn hwx (by omega)).mono ?_; rintro r w4 ⟨b, a, rfl, hale, ha⟩; obtain ⟨M4, γ4, L4, hC4, hl4, hK4, hB4⟩ := ha; have C4 := Aside0.mk hC4; have E4 := Aside0.mk hl4; have O4 := Aside0.mk (hK4 _ _ OB3 (by simp [offM])); have R4 := Aside0.mk (R_keepA R3 hK4); have B4 := Aside0.mk (B3.out.trans hB4); clear hC4 hl4 hK4 hB4; have o0 : w4.cell? ⟨ob, 0, none⟩ = some (.bool false) := (blk_cell O4.out 0).trans rfl; have q0 : w4.frozen? ⟨ob, 0, none⟩ = false := blk_frozen O4.out 0)
          go_meet
          case rel =>
            refine ⟨⟨M4, γ4, L4, b, 0, 0, 0, false, (C4.out).setOut (O4.out) 0 (.bool b), blk_set (O4.out) 0 (.bool b), Kd.R_far (p := ⟨ob, 0, none⟩) (R4.out) (fun k hk => Nat.ne_of_lt hk) (.bool b), (B4.out).setCell (p := ⟨ob, 0, none⟩) HOB.out (.bool b), ?_⟩⟩
            exact ⟨C4.out.cap, ⟨a, 0, E4.out, hale, by simp, by simp⟩, by simp, by simp⟩
        have d0 : decide (xd = 0) = false := decide_eq_false h0
        have e0 : (xd == 0) = false := by simp [h0]
        by_cases h1 : xd = 1
        · subst h1
          have x1 : w3.cell? ⟨xb, 1, none⟩ = some (.int .i64 xk) := by rw [blk_cell X3.out]; rfl
          have OB3 := OB.out
          have R3 := O3.out
          go_wp2_with (go_at_call 10; refine (get_any w3 w.heap.size c g n M 0 L xk C3.out hn hwx).mono ?_; rintro r w4 ⟨v, b, rfl, ha⟩; obtain ⟨M4, γ4, L4, hC4, hl4, hK4, hB4⟩ := ha; have C4 := Aside0.mk hC4; have E4 := Aside0.mk hl4; have O4 := Aside0.mk (hK4 _ _ OB3 (by simp [offM])); have R4 := Aside0.mk (R_keepA R3 hK4); have B4 := Aside0.mk (B3.out.trans hB4); clear hC4 hl4 hK4 hB4; have o2 : w4.cell? ⟨ob, 2, none⟩ = some (.int .i64 0) := (blk_cell O4.out 2).trans rfl; have q2 : w4.frozen? ⟨ob, 2, none⟩ = false := blk_frozen O4.out 2; have o0 : w4.cell? ⟨ob, 0, none⟩ = some (.bool false) := (blk_cell O4.out 0).trans rfl; have q0 : w4.frozen? ⟨ob, 0, none⟩ = false := blk_frozen O4.out 0)
          go_meet
          case rel =>
            refine ⟨⟨M4, γ4, L4, b, 0, v, 0, false, ((C4.out).setOut (O4.out) 2 (.int .i64 v)).setOut (blk_set (O4.out) 2 (.int .i64 v)) 0 (.bool b), blk_set (blk_set (O4.out) 2 (.int .i64 v)) 0 (.bool b), Kd.R_far (p := ⟨ob, 0, none⟩) (Kd.R_far (p := ⟨ob, 2, none⟩) (R4.out) (fun k hk => Nat.ne_of_lt hk) (.int .i64 v)) (fun k hk => Nat.ne_of_lt hk) (.bool b), ((B4.out).setCell (p := ⟨ob, 2, none⟩) HOB.out (.int .i64 v)).setCell (p := ⟨ob, 0, none⟩) HOB.out (.bool b), ?_⟩⟩
            exact ⟨C4.out.cap, ⟨0, 0, E4.out, by omega, by simp, by simp⟩, by simp, by simp⟩
        have d1 : decide (xd = 1) = false := decide_eq_false h1
        have e1 : (xd == 1) = false := by simp [h1]
        by_cases h2 : xd = 2
        · subst h2
          have x1 : w3.cell? ⟨xb, 1, none⟩ = some (.int .i64 xk) := by rw [blk_cell X3.out]; rfl
          have OB3 := OB.out
          have R3 := O3.out
          go_wp2_with (go_at_call 11; refine (compute_any w3 w.heap.size c g n M 0 L xk xv C3.out hn hwx (by omega) ob xb 2 xk (.slice none 0 0) false 0 0 0 false OB.out X3.out HOB.out).mono ?_; rintro r w4 ⟨v, a, as', w5, rfl, hale, ho5, hoth5, hb5, ha⟩; obtain ⟨M4, γ4, L4, hC4, hl4, hK4, hB4⟩ := ha; have C4 := Aside0.mk hC4; have E4 := Aside0.mk hl4; have O4 := Aside0.mk (hK4 _ _ ho5 (by simp [offM])); have R4 := Aside0.mk (R_keepA (Kd.R_move R3 (fun k hk => hoth5 k (Nat.ne_of_lt hk))) hK4); have B4 := Aside0.mk ((B3.out.trans hb5).trans hB4); clear hC4 hl4 hK4 hB4 ho5 hoth5 hb5; have o2 : w4.cell? ⟨ob, 2, none⟩ = some (.int .i64 0) := (blk_cell O4.out 2).trans rfl; have q2 : w4.frozen? ⟨ob, 2, none⟩ = false := blk_frozen O4.out 2)
          go_meet
          case rel =>
            refine ⟨⟨M4, γ4, L4, false, 0, v, 0, as', (C4.out).setOut (O4.out) 2 (.int .i64 v), blk_set (O4.out) 2 (.int .i64 v), Kd.R_far (p := ⟨ob, 2, none⟩) (R4.out) (fun k hk => Nat.ne_of_lt hk) (.int .i64 v), (B4.out).setCell (p := ⟨ob, 2, none⟩) HOB.out (.int .i64 v), ?_⟩⟩
            exact ⟨C4.out.cap, ⟨a, 0, E4.out, hale, by simp, by simp⟩, by simp, by simp⟩
        have d2 : decide (xd = 2) = false := decide_eq_false h2
        have e2 : (xd == 2) = false := by simp [h2]
        by_cases h3 : xd = 3
        · subst h3
          have x1 : w3.cell? ⟨xb, 1, none⟩ = some (.int .i64 xk) := by rw [blk_cell X3.out]; rfl
          have OB3 := OB.out
          have R3 := O3.out
          go_wp2_with (go_at_call 13; refine (rem_any w3 w.heap.size c g n M 0 L xk C3.out hn hwx).mono ?_; rintro r w4 ⟨b, rfl, ha⟩; obtain ⟨M4, γ4, L4, hC4, hl4, hK4, hB4⟩ := ha; have C4 := Aside0.mk hC4; have E4 := Aside0.mk hl4; have O4 := Aside0.mk (hK4 _ _ OB3 (by simp [offM])); have R4 := Aside0.mk (R_keepA R3 hK4); have B4 := Aside0.mk (B3.out.trans hB4); clear hC4 hl4 hK4 hB4; have o0 : w4.cell? ⟨ob, 0, none⟩ = some (.bool false) := (blk_cell O4.out 0).trans rfl; have q0 : w4.frozen? ⟨ob, 0, none⟩ = false := blk_frozen O4.out 0)
          go_meet
          case rel =>
            refine ⟨⟨M4, γ4, L4, b, 0, 0, 0, false, (C4.out).setOut (O4.out) 0 (.bool b), blk_set (O4.out) 0 (.bool b), Kd.R_far (p := ⟨ob, 0, none⟩) (R4.out) (fun k hk => Nat.ne_of_lt hk) (.bool b), (B4.out).setCell (p := ⟨ob, 0, none⟩) HOB.out (.bool b), ?_⟩⟩
            exact ⟨C4.out.cap, ⟨0, _, E4.out, by omega, by simp, by simp⟩, by simp, by simp⟩
        have d3 : decide (xd = 3) = false := decide_eq_false h3
        have e3 : (xd == 3) = false := by simp [h3]
        by_cases h4 : xd = 4
        · subst h4
          have OB3 := OB.out
          have R3 := O3.out
          go_wp2_with (go_at_call 14; refine (oldest_any w3 w.heap.size c g n M 0 L C3.out hn (by omega)).mono ?_; rintro r w4 ⟨k, v, b, rfl, ha⟩; obtain ⟨M4, γ4, L4, hC4, hl4, hK4, hB4⟩ := ha; have C4 := Aside0.mk hC4; have E4 := Aside0.mk hl4; have O4 := Aside0.mk (hK4 _ _ OB3 (by simp [offM])); have R4 := Aside0.mk (R_keepA R3 hK4); have B4 := Aside0.mk (B3.out.trans hB4); clear hC4 hl4 hK4 hB4; have o1 : w4.cell? ⟨ob, 1, none⟩ = some (.int .i64 0) := (blk_cell O4.out 1).trans rfl; have q1 : w4.frozen? ⟨ob, 1, none⟩ = false := blk_frozen O4.out 1; have o2 : w4.cell? ⟨ob, 2, none⟩ = some (.int .i64 0) := (blk_cell O4.out 2).trans rfl; have q2 : w4.frozen? ⟨ob, 2, none⟩ = false := blk_frozen O4.out 2; have o0 : w4.cell? ⟨ob, 0, none⟩ = some (.bool false) := (blk_cell O4.out 0).trans rfl; have q0 : w4.frozen? ⟨ob, 0, none⟩ = false := blk_frozen O4.out 0)
          go_meet
          case rel =>
            refine ⟨⟨M4, γ4, L4, b, k, v, 0, false, (((C4.out).setOut (O4.out) 1 (.int .i64 k)).setOut (blk_set (O4.out) 1 (.int .i64 k)) 2 (.int .i64 v)).setOut (blk_set (blk_set (O4.out) 1 (.int .i64 k)) 2 (.int .i64 v)) 0 (.bool b), blk_set (blk_set (blk_set (O4.out) 1 (.int .i64 k)) 2 (.int .i64 v)) 0 (.bool b), Kd.R_far (p := ⟨ob, 0, none⟩) (Kd.R_far (p := ⟨ob, 2, none⟩) (Kd.R_far (p := ⟨ob, 1, none⟩) (R4.out) (fun k hk => Nat.ne_of_lt hk) (.int .i64 k)) (fun k hk => Nat.ne_of_lt hk) (.int .i64 v)) (fun k hk => Nat.ne_of_lt hk) (.bool b), (((B4.out).setCell (p := ⟨ob, 1, none⟩) HOB.out (.int .i64 k)).setCell (p := ⟨ob, 2, none⟩) HOB.out (.int .i64 v)).setCell (p := ⟨ob, 0, none⟩) HOB.out (.bool b), ?_⟩⟩
            exact ⟨C4.out.cap, ⟨0, 0, E4.out, by omega, by simp, by simp⟩, by simp, by simp⟩
        have d4 : decide (xd = 4) = false := decide_eq_false h4
        have e4 : (xd == 4) = false := by simp [h4]
        by_cases h5 : xd = 5
        · subst h5
          have OB3 := OB.out
          have R3 := O3.out
          go_wp2_with (go_at_call 15; refine (purge_any w3 w.heap.size c g n M 0 L C3.out hn (by omega)).mono ?_; rintro r w4 ⟨rfl, ha⟩; obtain ⟨M4, γ4, L4, hC4, hl4, hK4, hB4⟩ := ha; have C4 := Aside0.mk hC4; have E4 := Aside0.mk hl4; have O4 := Aside0.mk (hK4 _ _ OB3 (by simp [offM])); have R4 := Aside0.mk (R_keepA R3 hK4); have B4 := Aside0.mk (B3.out.trans hB4); clear hC4 hl4 hK4 hB4)
          go_meet
          case rel =>
            refine ⟨⟨M4, γ4, L4, false, 0, 0, 0, false, C4.out, O4.out, R4.out, B4.out, ?_⟩⟩
            exact ⟨C4.out.cap, ⟨0, 0, E4.out, by omega, by simp, by simp⟩, by simp, by simp⟩
        have d5 : decide (xd = 5) = false := decide_eq_false h5
        have e5 : (xd == 5) = false := by simp [h5]
        by_cases h6 : xd = 6
        · subst h6
          have OB3 := OB.out
          have R3 := O3.out
          go_wp2_with (go_at_call 16; refine (len_ w3 w.heap.size c g n M 0 L C3.out hn).mono ?_; rintro r w4 ⟨rfl, rfl⟩; have C4 := C3; have O4 := OB; have R4 := O3; have B4 := B3; have o2 : w3.cell? ⟨ob, 2, none⟩ = some (.int .i64 0) := (blk_cell O4.out 2).trans rfl; have q2 : w3.frozen? ⟨ob, 2, none⟩ = false := blk_frozen O4.out 2)
          go_meet
          case rel =>
            refine ⟨⟨M, 0, L, false, 0, (L.length : Int), 0, false, (C4.out).setOut (O4.out) 2 (.int .i64 (L.length : Int)), blk_set (O4.out) 2 (.int .i64 (L.length : Int)), Kd.R_far (p := ⟨ob, 2, none⟩) (R4.out) (fun k hk => Nat.ne_of_lt hk) (.int .i64 (L.length : Int)), (B4.out).setCell (p := ⟨ob, 2, none⟩) HOB.out (.int .i64 (L.length : Int)), ?_⟩⟩
            exact ⟨C4.out.cap, ⟨0, 0, by simp, by omega, by simp, by simp⟩, by simp, by simp⟩
        have d6 : decide (xd = 6) = false := decide_eq_false h6
        have e6 : (xd == 6) = false := by simp [h6]
        by_cases h7 : xd = 7
        · subst h7
          have OB3 := OB.out
          have R3 := O3.out
          go_wp2_with (go_at_call 17; refine (cap_ w3 w.heap.size c g n M 0 L C3.out).mono ?_; rintro r w4 ⟨rfl, rfl⟩; have C4 := C3; have O4 := OB; have R4 := O3; have B4 := B3; have o2 : w3.cell? ⟨ob, 2, none⟩ = some (.int .i64 0) := (blk_cell O4.out 2).trans rfl; have q2 : w3.frozen? ⟨ob, 2, none⟩ = false := blk_frozen O4.out 2)
          go_meet
          case rel =>
            refine ⟨⟨M, 0, L, false, 0, (n : Int), 0, false, (C4.out).setOut (O4.out) 2 (.int .i64 (n : Int)), blk_set (O4.out) 2 (.int .i64 (n : Int)), Kd.R_far (p := ⟨ob, 2, none⟩) (R4.out) (fun k hk => Nat.ne_of_lt hk) (.int .i64 (n : Int)), (B4.out).setCell (p := ⟨ob, 2, none⟩) HOB.out (.int .i64 (n : Int)), ?_⟩⟩
            exact ⟨C4.out.cap, ⟨0, 0, by simp, by omega, by simp, by simp⟩, by simp, by simp⟩
        have d7 : decide (xd = 7) = false := decide_eq_false h7
        have e7 : (xd == 7) = false := by simp [h7]
        by_cases h8 : xd = 8
        · subst h8
          have OB3 := OB.out
          have R3 := O3.out
          go_wp2_with (go_at_call 18; refine (rate_ w3 w.heap.size c g n M 0 L C3.out).mono ?_; rintro r w4 ⟨⟨y, rfl⟩, hq⟩; have ha := hq.aft; obtain ⟨M4, γ4, L4, hC4, hl4, hK4, hB4⟩ := ha; have C4 := Aside0.mk hC4; have E4 := Aside0.mk hl4; have O4 := Aside0.mk (hK4 _ _ OB3 (by simp [offM])); have R4 := Aside0.mk (R_keepA R3 hK4); have B4 := Aside0.mk (B3.out.trans hB4); clear hC4 hl4 hK4 hB4; have o3 : w4.cell? ⟨ob, 3, none⟩ = some (.float .f64 0) := (blk_cell O4.out 3).trans rfl; have q3 : w4.frozen? ⟨ob, 3, none⟩ = false := blk_frozen O4.out 3)
          go_meet
          case rel =>
            refine ⟨⟨M4, γ4, L4, false, 0, 0, y, false, (C4.out).setOut (O4.out) 3 (.float .f64 y), blk_set (O4.out) 3 (.float .f64 y), Kd.R_far (p := ⟨ob, 3, none⟩) (R4.out) (fun k hk => Nat.ne_of_lt hk) (.float .f64 y), (B4.out).setCell (p := ⟨ob, 3, none⟩) HOB.out (.float .f64 y), ?_⟩⟩
            exact ⟨C4.out.cap, ⟨0, 0, E4.out, by omega, by simp, by simp⟩, by simp, by simp⟩
        have d8 : decide (xd = 8) = false := decide_eq_false h8
        have e8 : (xd == 8) = false := by simp [h8]
        go_wp2
        go_meet
        case rel => exact ⟨⟨M, 0, L, false, 0, 0, 0, false, C3.out, OB.out, O3.out, B3.out, ⟨C3.out.cap, ⟨0, 0, by simp, by omega, by simp, by simp [h3]⟩, fun h => absurd h h6, fun h => absurd h h7⟩⟩⟩
      case rest =>
        clear X3 C3 O3 B3 OB
        obtain ⟨M5, γ5, L5, ok, key, val, rate, asked, hC5, hO5, hR5, hB5, hS⟩ := hcut.out
        have HST := Aside0.mk hS
        obtain ⟨gb, gv, gxs, gl, hg, gr⟩ := hC5.gone
        obtain ⟨ga, gc, rfl⟩ := Kd.R_slice gr
        rw [gl] at hg
        have g0 : wc.cell? ⟨g, 0, none⟩ = some (.slice ga γ5 gc) := by rw [blk_cell hg]; rfl
        have o5 : wc.cell? ⟨ob, 5, none⟩ = some (.slice none 0 0) := by rw [blk_cell hO5]; rfl
        have f5 : wc.frozen? ⟨ob, 5, none⟩ = false := blk_frozen hO5 5
        have C6 := Aside0.mk (hC5.setOut hO5 5 (.slice ga γ5 gc))
        have O6 := Aside0.mk (blk_put hO5 5 (.slice ga γ5 gc) (cs' := outC ok key val rate asked (.slice ga γ5 gc)) rfl)
        have R6 := Aside0.mk (Kd.R_far (p := ⟨ob, 5, none⟩) hR5 (fun k hk => Nat.ne_of_lt hk) (.slice ga γ5 gc))
        have B6 := Aside0.mk (hB5.setCell (p := ⟨ob, 5, none⟩) HOB.out (.slice ga γ5 gc))
        clear hC5 hO5 hR5 hB5 hS gl hg gr gb hcut
        go_upto_region 33 with (fail)
        change Code.wp _ _ _ _ (wc.setCell ⟨ob, 5, none⟩ (.slice ga γ5 gc))
        clear g0 o5 f5
        generalize (wc.setCell ⟨ob, 5, none⟩ (.slice ga γ5 gc)) = w6 at C6 O6 R6 B6 ⊢
        have o0 : w6.cell? ⟨ob, 0, none⟩ = some (.bool ok) := by rw [blk_cell O6.out]; rfl
        have o1 : w6.cell? ⟨ob, 1, none⟩ = some (.int .i64 key) := by rw [blk_cell O6.out]; rfl
        have o2 : w6.cell? ⟨ob, 2, none⟩ = some (.int .i64 val) := by rw [blk_cell O6.out]; rfl
        have o3 : w6.cell? ⟨ob, 3, none⟩ = some (.float .f64 rate) := by rw [blk_cell O6.out]; rfl
        have o4 : w6.cell? ⟨ob, 4, none⟩ = some (.bool asked) := by rw [blk_cell O6.out]; rfl
        have o5 : w6.cell? ⟨ob, 5, none⟩ = some (.slice ga γ5 gc) := by rw [blk_cell O6.out]; rfl
        have R7 := Aside0.mk (Kd.R_mono R6.out (ok' := fun _ => True) (fun _ _ => trivial))
        have hlen : outs.length = i := by have := RunTo.length HRT.out; simp at this; omega
        have HLN : Aside0 ((outs.length + 1) * 64 ≤ 140737488355328) := ⟨by omega⟩
        have hb6 := B6.out.size
        clear hlen R6
        go_wp2_with ((with_reducible refine gate_builtin (b := .append) (xs := #[.tmp 99, .tmp 101]) rfl ?_); at_builtin; refine Kd.R_append (d := kOut) (w0 := w) (W := w6) w.heap.size (by rfl) (.tmp 99) (.tmp 101) 26 32 (.agg (outC false 0 0 0 false (.slice none 0 0))) 64 (by rfl) Try.underlying26 infoOut (by rfl) (by decide) (by decide) u10 outs (ok, val, γ5) (outC ok key val rate asked (.slice ga γ5 gc)).toList (fun _ => True) (fun _ => False) (by rfl) (by rfl) ⟨key, rate, asked, ga, gc, rfl⟩ (fun _ hk => hk.elim) (fun _ _ => trivial) R7.out B6.out hb6 HLN.out ?_; intro v2 w7 ho hb hgr hat; have R8 := Aside0.mk ho; have B8 := Aside0.mk hb; have G8 := Aside0.mk hgr; clear ho hb hgr hat)
        have K8 : Keep (offT [32]) w6 w7 := by
          intro b o hb ho
          refine (G8.out.block b (blk_lt hb) (fun e => ?_)).trans hb
          obtain ⟨inner, hown⟩ := Kd.R_own R7.out
          obtain ⟨cells, hc⟩ := own_typed hown b e.symm
          rw [hc] at hb
          cases hb
          exact absurd (by simp) ho
        have C8 := Aside0.mk (CacheAt.mk (C6.out.dll.keep K8 (by simp [offT]) (by simp [offT])) (C6.out.map.keep K8 (by simp [offT])) C6.out.bm (C6.out.gone.keep K8 (by simp [offT]) (by simp [offT])) C6.out.cap C6.out.nb)
        clear K8 G8 C6 O6 R7 B6 o0 o1 o2 o3 o4 o5
        go_roundg (gk - 1)
        case measure => have := HI.out; omega
        case rel => exact ⟨i + 1, M5, γ5, L5, outs ++ [(ok, val, γ5)], by go_num, ⟨by have := HI.out; omega⟩, R8, C8, ⟨by rw [HT.out]; exact HRT.out.snoc HST.out⟩, B8⟩
    · have hin : i = l.length := by have := HI.out; omega
      have p1 : decide ((i : Int) < (l.length : Int)) = false := decide_eq_false (by omega)
      have HRT2 := HRT.out
      rw [hin, List.take_length] at HRT2
      have HRT3 := Aside0.mk HRT2
      clear HRT2 HRT
      go_wp2
      go_ret2
      exact ⟨_, outs, L.length, rfl, HO.out, HRT3.out, HB.out⟩
end Go.Proofs.Ytjncpidadcfncaa.Hand
