/- The cache's line of entries: what removeNode, addToFront and moveToFront leave. -/
import Derived.Test.YtjncpidadcfncaaHandCacheA
import Derived.LaidEqlPtr
namespace Go.Proofs.Ytjncpidadcfncaa.Hand
open Go.RowKit Go.Proofs.YtjncpidadcfncaaW.PrintWords Go.Proofs.Ytjncpidadcfncaa.Base
open Go.Maps (Keyed)
set_option linter.unusedVariables false
set_option linter.unusedSimpArgs false

/-- Blocks of cells of none of these types, and blocks of other kinds. -/
def offT (S : List TypeId) : Obj → Prop
  | .cells _ t _ => t ∉ S
  | _ => True
/-- Blocks of cells of none of these types. -/
def offM (S : List TypeId) : Obj → Prop
  | .cells _ t _ => t ∉ S
  | _ => False
/-- What is so stays. -/
def Keep (P : Obj → Prop) (w w' : World) : Prop := ∀ (b : Nat) (o : Obj), w.heap[b]? = some o → P o → w'.heap[b]? = some o
theorem Keep.refl (P : Obj → Prop) (w : World) : Keep P w w := fun _ _ h _ => h
theorem Keep.trans {P : Obj → Prop} {a b c : World} (h : Keep P a b) (k : Keep P b c) : Keep P a c := fun x o hx hp => k x o (h x o hx hp) hp
theorem Keep.mono {P Q : Obj → Prop} {a b : World} (h : Keep P a b) (hq : ∀ o, Q o → P o) : Keep Q a b := fun x o hx hp => h x o hx (hq o hp)
theorem offT_mono {S S' : List TypeId} (h : ∀ t ∈ S, t ∈ S') (o : Obj) (ho : offT S' o) : offT S o := by
  cases o <;> simp only [offT] at ho ⊢
  exact fun hm => ho (h _ hm)
theorem offM_offT {S S' : List TypeId} (h : ∀ t ∈ S, t ∈ S') (o : Obj) (ho : offM S' o) : offT S o := by
  cases o <;> simp only [offT, offM] at ho ⊢
  exact fun hm => ho (h _ hm)
theorem offM_mono {S S' : List TypeId} (h : ∀ t ∈ S, t ∈ S') (o : Obj) (ho : offM S' o) : offM S o := by
  cases o <;> simp only [offM] at ho ⊢
  exact fun hm => ho (h _ hm)
theorem Keep.cells {P : Obj → Prop} {a b : World} (h : Keep P a b) {g : Nat} {cs : Array Value} {t : TypeId} (hg : a.heap[g]? = some (.cells cs t (0, 0))) (hP : P (.cells cs t (0, 0))) : b.heap[g]? = some (.cells cs t (0, 0)) := h g _ hg hP
theorem neLE : (52 : TypeId) ≠ 55 := by decide
theorem Keep.below {P : Obj → Prop} {a b : World} (h : Below a.heap.size a b) : Keep P a b := fun x o hx _ => blk_below hx h

abbrev tL : List TypeId := [52, 55]
theorem Blks.keep {w0 w : World} {base : Nat} {l0 l : List Bk} (h0 : Blks w0 w0 base l0) (h : Blks w0 w base l) (he : l0.map (·.1) = l.map (·.1)) (S : List TypeId) (hS : ∀ x ∈ l0, x.2.2 ∈ S) : Keep (offT S) w0 w := by
  intro b o hb ho
  by_cases hx : ∃ x ∈ l0, x.1 = b
  · obtain ⟨x, hm, rfl⟩ := hx
    have := (h0.at_ x hm).1
    rw [this] at hb
    cases hb
    exact absurd (hS x hm) ho
  · refine (h.oth b (fun x hm e => hx ?_)).trans hb
    have : b ∈ l0.map (·.1) := by rw [he]; exact List.mem_map.2 ⟨x, hm, e⟩
    obtain ⟨y, hy, e2⟩ := List.mem_map.1 this
    exact ⟨y, hy, e2⟩

theorem Dll.keep {w w' : World} {base c : Nat} {n : Int} {M : Nat} {f : Value} {L : List Ent} (H : Dll w base c n M f L) {P : Obj → Prop} (K : Keep P w w') (h1 : ∀ cs, P (.cells cs 52 (0, 0))) (h2 : ∀ cs, P (.cells cs 55 (0, 0))) : Dll w' base c n M f L := by
  obtain ⟨h, m, hb⟩ := H.blk
  refine ⟨⟨h, m, K _ _ hb (h1 _)⟩, seg_congr H.seg (fun x hx => ?_), H.nodup, H.bc, H.bl⟩
  obtain ⟨a, b, hx⟩ := seg_mem H.seg x hx
  rw [hx]
  exact K _ _ hx (h2 _)

theorem Dll.ne {w : World} {base c : Nat} {n : Int} {M : Nat} {f : Value} {L : List Ent} (H : Dll w base c n M f L) : ∀ x ∈ L, x.1 ≠ c := by
  intro x hx
  obtain ⟨h, m, hb⟩ := H.blk
  obtain ⟨a, b, hx⟩ := seg_mem H.seg x hx
  exact Ne.symm (blk_ne' hb hx neLE)


/-- An entry that has been taken out of the line. -/
structure Outd (w : World) (base e : Nat) (k v : Int) (L : List Ent) : Prop where
  blk : ∃ p n, w.heap[e]? = some (.cells (entC k v p n) 55 (0, 0))
  be : base ≤ e
  new : ∀ x ∈ L, x.1 ≠ e

theorem removeNode_ (w : World) (base c : Nat) (n : Int) (M : Nat) (f : Value) (A B : List Ent) (x : Ent) (H : Dll w base c n M f (A ++ x :: B)) :
    Calls Try.prog 22 #[.pointer (some ⟨c, 0, none⟩), .pointer (some ⟨x.1, 0, none⟩)] w fun r w' => r = .returned (.tuple #[]) ∧ Dll w' base c n M f (A ++ B) ∧ Outd w' base x.1 x.2.1 x.2.2 (A ++ B) ∧ Keep (offT tL) w w' ∧ Below base w w' := by
  have hne := H.ne
  have hnd := H.nodup
  obtain ⟨h, m, hb⟩ := H.blk
  have hs := H.seg
  rw [seg_append] at hs
  obtain ⟨hsA, hsx, hsB⟩ := hs
  have hbc := H.bc
  have hbl := H.bl
  have hdis : (∀ y ∈ A, y.1 ≠ x.1) ∧ (∀ y ∈ B, y.1 ≠ x.1) ∧ (∀ y ∈ A, ∀ z ∈ B, y.1 ≠ z.1) ∧ (A.map (·.1)).Nodup ∧ (B.map (·.1)).Nodup := by
    rw [List.map_append, List.map_cons, List.nodup_append] at hnd
    obtain ⟨n1, n2, n3⟩ := hnd
    rw [List.nodup_cons] at n2
    refine ⟨fun y hy => n3 _ (List.mem_map.2 ⟨y, hy, rfl⟩) _ (by simp), fun y hy e => n2.1 (List.mem_map.2 ⟨y, hy, e⟩), fun y hy z hz => n3 _ (List.mem_map.2 ⟨y, hy, rfl⟩) _ (List.mem_cons_of_mem _ (List.mem_map.2 ⟨z, hz, rfl⟩)), n1, n2.2⟩
  obtain ⟨dA, dB, dAB, nA, nB⟩ := hdis
  have nAB : ((A ++ B).map (·.1)).Nodup := by
    rw [List.map_append, List.nodup_append]
    refine ⟨nA, nB, fun a ha b hb => ?_⟩
    obtain ⟨y, hy, rfl⟩ := List.mem_map.1 ha
    obtain ⟨z, hz, rfl⟩ := List.mem_map.1 hb
    exact dAB y hy z hz
  have hblAB : ∀ y ∈ A ++ B, base ≤ y.1 := fun y hy => hbl y (by rcases List.mem_append.1 hy with h | h <;> simp [h])
  have hnew : ∀ y ∈ A ++ B, y.1 ≠ x.1 := fun y hy => by
    rcases List.mem_append.1 hy with h | h
    · exact dA y h
    · exact dB y h
  have hneA : ∀ y ∈ A, y.1 ≠ c := fun y hy => hne y (by simp [hy])
  have hneB : ∀ y ∈ B, y.1 ≠ c := fun y hy => hne y (by simp [hy])
  have hxc : x.1 ≠ c := hne x (by simp)
  have hxb : base ≤ x.1 := hbl x (by simp)
  rw [headB_append, lastB_append] at hb
  simp only [headB, lastB] at hb hsx hsA
  rcases List.eq_nil_or_concat A with rfl | ⟨A', y, rfl⟩
  · rcases B with _ | ⟨z, B'⟩
    · have BS : Blks w w base [(c, lruC n M (some x.1) (some x.1) f h m, 52), (x.1, entC x.2.1 x.2.2 none none, 55)] :=
        Blks.start (by simp only [List.mem_cons, List.not_mem_nil, or_false, forall_eq_or_imp, forall_eq]; exact ⟨⟨hb, hbc⟩, ⟨hsx, hxb⟩⟩) (by simp; exact Ne.symm hxc)
      refine (cut_nn w base c x.1 n M (some x.1) (some x.1) f h m x.2.1 x.2.2 BS).mono ?_
      rintro r w' ⟨rfl, BE⟩
      exact ⟨rfl, ⟨⟨h, m, BE.get 0 rfl⟩, trivial, by simp, hbc, by simp⟩, ⟨⟨none, none, BE.get 1 rfl⟩, hxb, by simp⟩, Blks.keep BS BE rfl _ (by simp), BE.bel⟩
    · obtain ⟨hz, hsB⟩ := hsB
      have BS : Blks w w base [(c, lruC n M (some x.1) (lastB B' (some z.1)) f h m, 52), (x.1, entC x.2.1 x.2.2 none (some z.1), 55), (z.1, entC z.2.1 z.2.2 (some x.1) (headB B' none), 55)] :=
        Blks.start (by simp only [List.mem_cons, List.not_mem_nil, or_false, forall_eq_or_imp, forall_eq]; exact ⟨⟨hb, hbc⟩, ⟨hsx, hxb⟩, ⟨hz, hbl z (by simp)⟩⟩) (by
          have h1 := hneB z (by simp)
          have h2 := dB z (by simp)
          simp; exact ⟨⟨Ne.symm hxc, Ne.symm h1⟩, Ne.symm h2⟩)
      refine (cut_ns w base c x.1 n M (some x.1) (lastB B' (some z.1)) f h m x.2.1 x.2.2 z.1 z.2.1 z.2.2 (some x.1) (headB B' none) BS).mono ?_
      rintro r w' ⟨rfl, BE⟩
      refine ⟨rfl, ⟨⟨h, m, BE.get 0 rfl⟩, ⟨BE.get 2 rfl, seg_congr hsB (fun y hy => BE.oth _ ?_)⟩, nAB, hbc, hblAB⟩, ⟨⟨none, none, BE.get 1 rfl⟩, hxb, hnew⟩, Blks.keep BS BE rfl _ (by simp), BE.bel⟩
      have h1 := hneB y (by simp [hy])
      have h2 := dB y (by simp [hy])
      have h3 : z.1 ≠ y.1 := fun e => (List.nodup_cons.1 nB).1 (List.mem_map.2 ⟨y, hy, e.symm⟩)
      simp only [List.mem_cons, List.not_mem_nil, or_false, forall_eq_or_imp, forall_eq]
      exact ⟨Ne.symm h1, Ne.symm h2, h3⟩
  · rw [List.concat_eq_append] at *
    rw [seg_append] at hsA
    obtain ⟨hsA, hy, _⟩ := hsA
    rw [lastB_snoc] at hsx
    have hy' := hy
    simp only [headB] at hy hsA
    have hyA : ∀ y' ∈ A', y'.1 ≠ y.1 := by
      rw [List.map_append, List.nodup_append] at nA
      exact fun y' hy' => nA.2.2 _ (List.mem_map.2 ⟨y', hy', rfl⟩) _ (by simp)
    have hcy := hneA y (by simp)
    have hxy := dA y (by simp)
    have hby : base ≤ y.1 := hbl y (by simp)
    rcases B with _ | ⟨z, B'⟩
    · have BS : Blks w w base [(c, lruC n M (headB (A' ++ [y]) (some x.1)) (some x.1) f h m, 52), (x.1, entC x.2.1 x.2.2 (some y.1) none, 55), (y.1, entC y.2.1 y.2.2 (lastB A' none) (some x.1), 55)] :=
        Blks.start (by simp only [List.mem_cons, List.not_mem_nil, or_false, forall_eq_or_imp, forall_eq]; exact ⟨⟨hb, hbc⟩, ⟨hsx, hxb⟩, ⟨hy, hby⟩⟩) (by simp; exact ⟨⟨Ne.symm hxc, Ne.symm hcy⟩, Ne.symm hxy⟩)
      refine (cut_sn w base c x.1 n M (headB (A' ++ [y]) (some x.1)) (some x.1) f h m x.2.1 x.2.2 y.1 y.2.1 y.2.2 (lastB A' none) (some x.1) BS).mono ?_
      rintro r w' ⟨rfl, BE⟩
      have e1 : headB (A' ++ [y]) (some x.1) = headB (A' ++ [y]) none := by rw [headB_append, headB_append]; rfl
      rw [e1] at BE
      refine ⟨rfl, ⟨⟨h, m, by rw [List.append_nil, lastB_snoc]; exact BE.get 0 rfl⟩, ?_, nAB, hbc, hblAB⟩, ⟨⟨none, none, BE.get 1 rfl⟩, hxb, hnew⟩, Blks.keep BS BE rfl _ (by simp), BE.bel⟩
      rw [List.append_nil, seg_append]
      refine ⟨seg_congr hsA (fun y' hy' => BE.oth _ ?_), BE.get 2 rfl, trivial⟩
      have h1 := hneA y' (by simp [hy'])
      have h2 := dA y' (by simp [hy'])
      simp only [List.mem_cons, List.not_mem_nil, or_false, forall_eq_or_imp, forall_eq]
      exact ⟨Ne.symm h1, Ne.symm h2, Ne.symm (hyA y' hy')⟩
    · obtain ⟨hz, hsB⟩ := hsB
      have hcz := hneB z (by simp)
      have hxz := dB z (by simp)
      have hyz := dAB y (by simp) z (by simp)
      have hbz : base ≤ z.1 := hbl z (by simp)
      have BS : Blks w w base [(c, lruC n M (headB (A' ++ [y]) (some x.1)) (lastB B' (some z.1)) f h m, 52), (x.1, entC x.2.1 x.2.2 (some y.1) (some z.1), 55), (y.1, entC y.2.1 y.2.2 (lastB A' none) (some x.1), 55), (z.1, entC z.2.1 z.2.2 (some x.1) (headB B' none), 55)] :=
        Blks.start (by simp only [List.mem_cons, List.not_mem_nil, or_false, forall_eq_or_imp, forall_eq]; exact ⟨⟨hb, hbc⟩, ⟨hsx, hxb⟩, ⟨hy, hby⟩, ⟨hz, hbz⟩⟩) (by simp; exact ⟨⟨Ne.symm hxc, Ne.symm hcy, Ne.symm hcz⟩, ⟨Ne.symm hxy, Ne.symm hxz⟩, hyz⟩)
      refine (cut_ss w base c x.1 n M (headB (A' ++ [y]) (some x.1)) (lastB B' (some z.1)) f h m x.2.1 x.2.2 y.1 y.2.1 y.2.2 (lastB A' none) (some x.1) z.1 z.2.1 z.2.2 (some x.1) (headB B' none) BS).mono ?_
      rintro r w' ⟨rfl, BE⟩
      have e1 : headB (A' ++ [y]) (some x.1) = headB ((A' ++ [y]) ++ z :: B') none := by rw [headB_append A', headB_append (A' ++ [y]), headB_append A']; rfl
      have e2 : lastB B' (some z.1) = lastB ((A' ++ [y]) ++ z :: B') none := by rw [lastB_append]; rfl
      rw [e1, e2] at BE
      refine ⟨rfl, ⟨⟨h, m, BE.get 0 rfl⟩, ?_, nAB, hbc, hblAB⟩, ⟨⟨none, none, BE.get 1 rfl⟩, hxb, hnew⟩, Blks.keep BS BE rfl _ (by simp), BE.bel⟩
      rw [seg_append, seg_append, lastB_snoc]
      refine ⟨⟨seg_congr hsA (fun y' hy' => BE.oth _ ?_), BE.get 2 rfl, trivial⟩, BE.get 3 rfl, seg_congr hsB (fun z' hz' => BE.oth _ ?_)⟩
      · have h1 := hneA y' (by simp [hy'])
        have h2 := dA y' (by simp [hy'])
        have h3 := dAB y' (by simp [hy']) z (by simp)
        simp only [List.mem_cons, List.not_mem_nil, or_false, forall_eq_or_imp, forall_eq]
        exact ⟨Ne.symm h1, Ne.symm h2, Ne.symm (hyA y' hy'), Ne.symm h3⟩
      · have h1 := hneB z' (by simp [hz'])
        have h2 := dB z' (by simp [hz'])
        have h3 := dAB y (by simp) z' (by simp [hz'])
        have h4 : z.1 ≠ z'.1 := fun e => (List.nodup_cons.1 nB).1 (List.mem_map.2 ⟨z', hz', e.symm⟩)
        simp only [List.mem_cons, List.not_mem_nil, or_false, forall_eq_or_imp, forall_eq]
        exact ⟨Ne.symm h1, Ne.symm h2, h3, h4⟩

theorem addToFront_ (w : World) (base c e : Nat) (k v : Int) (n : Int) (M : Nat) (f : Value) (L : List Ent) (H : Dll w base c n M f L) (HO : Outd w base e k v L) :
    Calls Try.prog 21 #[.pointer (some ⟨c, 0, none⟩), .pointer (some ⟨e, 0, none⟩)] w fun r w' => r = .returned (.tuple #[]) ∧ Dll w' base c n M f ((e, k, v) :: L) ∧ Keep (offT tL) w w' ∧ Below base w w' := by
  have hne := H.ne
  obtain ⟨h, m, hb⟩ := H.blk
  obtain ⟨pe, ne, he⟩ := HO.blk
  have hec : c ≠ e := blk_ne' hb he neLE
  have hbc := H.bc
  have hnd : (((e, k, v) :: L).map (·.1)).Nodup := by
    rw [List.map_cons, List.nodup_cons]
    refine ⟨fun hm => ?_, H.nodup⟩
    obtain ⟨y, hy, e1⟩ := List.mem_map.1 hm
    exact HO.new y hy e1
  have hbl : ∀ x ∈ (e, k, v) :: L, base ≤ x.1 := by
    intro x hx
    rcases List.mem_cons.1 hx with rfl | hx
    · exact HO.be
    · exact H.bl x hx
  rcases L with _ | ⟨z, L'⟩
  · have BS : Blks w w base [(c, lruC n M none none f h m, 52), (e, entC k v pe ne, 55)] :=
      Blks.start (by simp only [List.mem_cons, List.not_mem_nil, or_false, forall_eq_or_imp, forall_eq]; exact ⟨⟨hb, hbc⟩, ⟨he, HO.be⟩⟩) (by simp; exact hec)
    refine (add_n w base c e n M f h m k v pe ne BS).mono ?_
    rintro r w' ⟨rfl, BE⟩
    exact ⟨rfl, ⟨⟨h, m, BE.get 0 rfl⟩, ⟨BE.get 1 rfl, trivial⟩, hnd, hbc, hbl⟩, Blks.keep BS BE rfl _ (by simp), BE.bel⟩
  · obtain ⟨hz, hsL⟩ := H.seg
    obtain ⟨tl, htl⟩ : ∃ tl, lastB L' (some z.1) = some tl := by
      rcases List.eq_nil_or_concat L' with rfl | ⟨A', y, rfl⟩
      · exact ⟨z.1, rfl⟩
      · rw [List.concat_eq_append, lastB_snoc]; exact ⟨_, rfl⟩
    simp only [headB, lastB, htl] at hb
    have hcz := hne z (by simp)
    have hez := HO.new z (by simp)
    have BS : Blks w w base [(c, lruC n M (some z.1) (some tl) f h m, 52), (e, entC k v pe ne, 55), (z.1, entC z.2.1 z.2.2 none (headB L' none), 55)] :=
      Blks.start (by simp only [List.mem_cons, List.not_mem_nil, or_false, forall_eq_or_imp, forall_eq]; exact ⟨⟨hb, hbc⟩, ⟨he, HO.be⟩, ⟨hz, H.bl z (by simp)⟩⟩) (by simp; exact ⟨⟨hec, Ne.symm hcz⟩, Ne.symm hez⟩)
    refine (add_s w base c e n M f h m k v pe ne tl z.1 z.2.1 z.2.2 none (headB L' none) BS).mono ?_
    rintro r w' ⟨rfl, BE⟩
    refine ⟨rfl, ⟨⟨h, m, ?_⟩, ⟨BE.get 1 rfl, BE.get 2 rfl, seg_congr hsL (fun y hy => BE.oth _ ?_)⟩, hnd, hbc, hbl⟩, Blks.keep BS BE rfl _ (by simp), BE.bel⟩
    · simp only [headB, lastB, htl]
      exact BE.get 0 rfl
    · have h1 := hne y (by simp [hy])
      have h2 := HO.new y (by simp [hy])
      have h3 : z.1 ≠ y.1 := fun e1 => (List.nodup_cons.1 H.nodup).1 (List.mem_map.2 ⟨y, hy, e1.symm⟩)
      simp only [List.mem_cons, List.not_mem_nil, or_false, forall_eq_or_imp, forall_eq]
      exact ⟨Ne.symm h1, Ne.symm h2, h3⟩

theorem infoEnt : ∃ j, Try.prog.info? 55 = some j ∧ j.size ≠ 0 := by
  obtain ⟨i, hi, h⟩ := Option.map_eq_some_iff.1 (show (Try.prog.info? 55).map (fun i => i.size) = some 4 by kernel_rfl)
  exact ⟨i, hi, by rw [h]; decide⟩
set_option maxHeartbeats 4000000 in
set_option maxRecDepth 100000 in
theorem moveToFront_ (w : World) (base c : Nat) (n : Int) (M : Nat) (f : Value) (A B : List Ent) (x : Ent) (H : Dll w base c n M f (A ++ x :: B)) :
    Calls Try.prog 19 #[.pointer (some ⟨c, 0, none⟩), .pointer (some ⟨x.1, 0, none⟩)] w fun r w' => r = .returned (.tuple #[]) ∧ Dll w' base c n M f (x :: (A ++ B)) ∧ Keep (offT tL) w w' ∧ Below base w w' := by
  obtain ⟨h, m, hb⟩ := H.blk
  have HH := Aside0.mk H
  rcases A with _ | ⟨y, A'⟩
  · have c2 : w.cell? ⟨c, 2, none⟩ = some (.pointer (some ⟨x.1, 0, none⟩)) := by rw [blk_cell hb]; rfl
    obtain ⟨j, hj, hjs⟩ := infoEnt
    have heq : (binOp .eql 50 (.pointer (some ⟨x.1, 0, none⟩)) (.pointer (some ⟨x.1, 0, none⟩))).run Try.prog w = .ok (.bool true) w := run_eql_ptr_same w _ Try.underlying50 hj
    clear H hb hj hjs
    go_enter Try.func19, Try.ntmps19
    go_wp2
    refine bodyPost_ret (results_none rfl _ _ _) rfl ?_
    exact ⟨rfl, HH.out, Keep.refl _ _, Below.refl _ _⟩
  · have c2 : w.cell? ⟨c, 2, none⟩ = some (.pointer (some ⟨y.1, 0, none⟩)) := by rw [blk_cell hb]; rfl
    have hyx : y.1 ≠ x.1 := by
      have := H.nodup
      rw [List.cons_append, List.map_cons, List.nodup_cons] at this
      exact fun e => this.1 (List.mem_map.2 ⟨x, by simp, e.symm⟩)
    obtain ⟨j, hj, hjs⟩ := infoEnt
    obtain ⟨_, _, hx⟩ := seg_mem HH.out.seg x (by simp)
    obtain ⟨_, _, hy⟩ := seg_mem HH.out.seg y (by simp)
    have heq : (binOp .eql 50 (.pointer (some ⟨y.1, 0, none⟩)) (.pointer (some ⟨x.1, 0, none⟩))).run Try.prog w = .ok (.bool false) w := run_eql_ptr_other w Try.underlying50 hj hjs (by intro e; injection e with e; exact hyx e) hy hx
    clear hx hy
    clear H hb hj hjs
    go_enter Try.func19, Try.ntmps19
    go_wp2_with (first
      | (go_at_call 22; refine (removeNode_ w base c n M f (y :: A') B x HH.out).mono ?_; rintro e w1 ⟨rfl, hd, ho, hk, hb⟩; have H1 := Aside0.mk hd; have O1 := Aside0.mk ho; have K1 := Aside0.mk hk; have B1 := Aside0.mk hb; clear hd ho hk hb c2)
      | (go_at_call 21; refine (addToFront_ w1 base c x.1 x.2.1 x.2.2 n M f (y :: A' ++ B) H1.out O1.out).mono ?_; rintro e w2 ⟨rfl, hd, hk, hb⟩; have H2 := Aside0.mk hd; have K2 := Aside0.mk hk; have B2 := Aside0.mk hb; clear hd hk hb))
    go_end0
    exact ⟨rfl, H2.out, K1.out.trans K2.out, B1.out.trans B2.out⟩
end Go.Proofs.Ytjncpidadcfncaa.Hand
