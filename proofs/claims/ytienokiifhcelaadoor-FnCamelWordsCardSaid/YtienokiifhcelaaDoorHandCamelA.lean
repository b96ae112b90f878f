/- tw.SplitCamelCase, walked: its first loop. -/
import Derived.Test.YtienokiifhcelaaDoorHandCamelM
import Derived.Deep.AppendLies
import Derived.Deep.RegionLaw
namespace Go.Proofs.YtienokiifhcelaaDoor.Hand
open Go.RowKit Go.Proofs.YtienokiifhcelaaDoorW.PrintWords Go.Proofs.YtienokiifhcelaaDoor.Base
set_option linter.unusedVariables false
set_option linter.unusedSimpArgs false

theorem groups_last (A : List UInt8) : (∃ gs g, groups A = gs ++ [g] ∧ lastC g = lastC A) ∨ (A = [] ∧ groups A = []) := by
  rcases List.eq_nil_or_concat A with rfl | ⟨B, b, rfl⟩
  · exact Or.inr ⟨rfl, rfl⟩
  · left
    have e : B.concat b = B ++ [b] := List.concat_eq_append ..
    rw [e, groups_snoc]
    have hl : lastC (B ++ [b]) = cls b := by unfold lastC; rw [List.getLast?_concat]
    rw [hl]
    unfold stepG
    split
    · rename_i g hg
      split
      · exact ⟨_, _, rfl, by unfold lastC; rw [List.getLast?_concat]⟩
      · exact ⟨_, _, rfl, by unfold lastC; rfl⟩
    · exact ⟨[], _, rfl, by unfold lastC; rfl⟩
theorem cls_pos (b : UInt8) : 1 ≤ cls b ∧ cls b ≤ 4 := by
  unfold cls
  repeat' split
  all_goals omega
theorem step_same {A : List UInt8} {b : UInt8} (h : lastC A = cls b) : ∃ gs g, groups A = gs ++ [g] ∧ groups (A ++ [b]) = gs ++ [g ++ [b]] := by
  rcases groups_last A with ⟨gs, g, e, hl⟩ | ⟨rfl, e⟩
  · refine ⟨gs, g, e, ?_⟩
    rw [groups_snoc, e]
    unfold stepG
    rw [List.getLast?_concat]
    simp only
    rw [if_pos (hl.trans h), List.dropLast_concat]
  · have := cls_pos b
    have h0 : lastC [] = 0 := rfl
    omega
theorem step_new {A : List UInt8} {b : UInt8} (h : lastC A ≠ cls b) : groups (A ++ [b]) = groups A ++ [[b]] := by
  rw [groups_snoc]
  rcases groups_last A with ⟨gs, g, e, hl⟩ | ⟨rfl, e⟩
  · rw [e]
    unfold stepG
    rw [List.getLast?_concat]
    simp only
    rw [if_neg (by rw [hl]; exact h)]
  · rw [e]
    rfl
theorem groups_len (A : List UInt8) : (groups A).length ≤ A.length ∧ ∀ g ∈ groups A, g.length ≤ A.length := by
  have key : ∀ n, ∀ A : List UInt8, A.length = n → (groups A).length ≤ A.length ∧ ∀ g ∈ groups A, g.length ≤ A.length := by
    intro n
    induction n with
    | zero =>
      intro A hA
      rw [List.length_eq_zero_iff.1 hA]
      exact ⟨Nat.le_refl _, fun g hg => by cases hg⟩
    | succ n ih =>
      intro A hA
      rcases List.eq_nil_or_concat A with rfl | ⟨B, b, rfl⟩
      · cases hA
      · rw [List.concat_eq_append] at hA ⊢
        have hB : B.length = n := by simpa using hA
        obtain ⟨h1, h2⟩ := ih B hB
        by_cases h : lastC B = cls b
        · obtain ⟨gs, g, e1, e2⟩ := step_same h
          rw [e1] at h1 h2
          rw [e2]
          simp only [List.length_append, List.length_singleton] at h1 ⊢
          refine ⟨by omega, fun x hx => ?_⟩
          rcases List.mem_append.1 hx with hx | hx
          · have := h2 x (List.mem_append_left _ hx); omega
          · have hx : x = g ++ [b] := by simpa using hx
            have := h2 g (List.mem_append_right _ (List.mem_singleton.2 rfl))
            rw [hx, List.length_append, List.length_singleton]
            omega
        · rw [step_new h]
          simp only [List.length_append, List.length_singleton]
          refine ⟨by omega, fun x hx => ?_⟩
          rcases List.mem_append.1 hx with hx | hx
          · have := h2 x hx; omega
          · have hx : x = [b] := by simpa using hx
            rw [hx]; simp
  exact key _ A rfl
theorem groups_nonempty (A : List UInt8) : ∀ g ∈ groups A, g ≠ [] := by
  have key : ∀ n, ∀ A : List UInt8, A.length = n → ∀ g ∈ groups A, g ≠ [] := by
    intro n
    induction n with
    | zero =>
      intro A hA
      rw [List.length_eq_zero_iff.1 hA]
      exact fun g hg => by cases hg
    | succ n ih =>
      intro A hA
      rcases List.eq_nil_or_concat A with rfl | ⟨B, b, rfl⟩
      · cases hA
      · rw [List.concat_eq_append] at hA ⊢
        have hB := ih B (by simpa using hA)
        by_cases h : lastC B = cls b
        · obtain ⟨gs, g, e1, e2⟩ := step_same h
          rw [e1] at hB
          rw [e2]
          intro x hx
          rcases List.mem_append.1 hx with hx | hx
          · exact hB x (List.mem_append_left _ hx)
          · have hx : x = g ++ [b] := by simpa using hx
            rw [hx]; simp
        · rw [step_new h]
          intro x hx
          rcases List.mem_append.1 hx with hx | hx
          · exact hB x hx
          · have hx : x = [b] := by simpa using hx
            rw [hx]; simp
  exact key _ A rfl
theorem flat_len {X : List (List UInt8)} {g : List UInt8} (h : g ∈ X) : g.length ≤ X.flatten.length := (List.sublist_flatten_of_mem h).length_le
theorem flat_mem {X : List (List UInt8)} {g : List UInt8} {b : UInt8} (h : g ∈ X) (hb : b ∈ g) : b ∈ X.flatten := List.mem_flatten.2 ⟨g, h, hb⟩
/-- A row cut at its end. -/
theorem RowAt.shrink {B : Nat} {W : World} {A : Option Addr} {c : Nat} {g : List UInt8} (h : RowAt B W (.slice A g.length c) g) (hg : g ≠ []) : RowAt B W (.slice A (g.length - 1) c) g.dropLast := by
  have hl : g.dropLast.length = g.length - 1 := List.length_dropLast
  obtain ⟨h1, h2⟩ := h
  have hp := List.length_pos_iff.2 hg
  refine ⟨by rw [runeV_len, Nat.mul_one], ?_⟩
  rcases h2 with ⟨_, h0⟩ | ⟨G, cap, cur, hv, hb, hh, h3, h4, h5, h6⟩
  · omega
  · simp only [Value.slice.injEq] at hv
    obtain ⟨rfl, _, rfl⟩ := hv
    refine Or.inr ⟨G, c, cur, by rw [hl], hb, hh, by omega, h4, h5, ?_⟩
    rw [Nat.mul_one] at h6 ⊢
    have e : runeV g.dropLast = (runeV g).dropLast := by simp [runeV, codes, List.map_dropLast]
    rw [e, ← h6, hl, List.dropLast_eq_take, List.take_take, List.length_take]
    have h7 : cur.toList.length = c := by rw [Array.length_toList, h5, Nat.mul_one]
    congr 1
    rw [h7]
    omega
/-- The first loop's memory. -/
structure L1 (w0 : World) (B : Nat) (s : ByteArray) (I E : Nat) (v3 v4 : Value) (i : Nat) (W : World) : Prop where
  last : v4 = .int .i64 (lastC (s.data.toList.take i) : Int)
  rows : ∃ vs, Rws B W v3 vs (groups (s.data.toList.take i))
  it : W.heap[I]? = some (.stringIter s i)
  en : W.heap[E]? = some (.cells #[] 9 (0, 0))
  bel : Below B w0 W
  bI : B ≤ I
  bE : B ≤ E
  bW : B ≤ W.heap.size
def Split1 (w0 : World) (B : Nat) (s : ByteArray) (v2 v3 : Value) (W : World) : Prop :=
  ∃ E vs, v2 = .slice (some ⟨E, 0, none⟩) 0 0 ∧ Rws B W v3 vs (groups s.data.toList) ∧ W.heap[E]? = some (.cells #[] 9 (0, 0)) ∧ Below B w0 W ∧ B ≤ E ∧ B ≤ W.heap.size

/-- The second loop's memory. -/
structure L2 (w0 : World) (B : Nat) (l : List UInt8) (E : Nat) (v3 : Value) (m i : Nat) (W : World) : Prop where
  rows : ∃ vs done rest, done.length = i ∧ done ++ adj rest = adj (groups l) ∧ (done ++ rest).flatten = l ∧ (∀ g ∈ rest, g ≠ []) ∧ (done ++ rest).length = m ∧ Rws B W v3 vs (done ++ rest)
  en : W.heap[E]? = some (.cells #[] 9 (0, 0))
  bel : Below B w0 W
  bE : B ≤ E
  bW : B ≤ W.heap.size
theorem adj_one' : ∀ (rest : List (List UInt8)), rest.length ≤ 1 → adj rest = rest
  | [], _ => by simp [adj]
  | [g], _ => adj_one g
  | _ :: _ :: _, h => by simp at h

theorem row_at {B : Nat} {W : World} {u : Value} {a : UInt8} {g : List UInt8} (h : RowAt B W u (a :: g)) : ∃ P cu, u = .slice (some ⟨P, 0, none⟩) (g.length + 1) cu ∧ (∀ j b, (a :: g)[j]? = some b → W.cell? ⟨P, j, none⟩ = some (.int .i32 (b.toNat : Int))) := by
  rcases h.2 with ⟨_, h0⟩ | ⟨P, cap, cur, hv, hr⟩
  · simp at h0
  · refine ⟨P, cap, hv, fun j b hj => ?_⟩
    subst hv
    refine (own_at h (i := j) (x := .int .i32 (b.toNat : Int)) ?_).1
    simp only [runeV, codes, List.map_map, List.getElem?_map, hj]
    rfl
theorem L2.skip {w0 W : World} {B : Nat} {l : List UInt8} {E : Nat} {v3 : Value} {m i : Nat} {vs : List Value} {done r : List (List UInt8)} {g h : List UInt8} (hd : done.length = i) (e2 : done ++ adj (g :: h :: r) = adj (groups l)) (e3 : (done ++ g :: h :: r).flatten = l) (e4 : ∀ x ∈ g :: h :: r, x ≠ []) (e5 : (done ++ g :: h :: r).length = m) (hr : Rws B W v3 vs (done ++ g :: h :: r)) (hc : (upHead g && loHead h) = false) (hW : L2 w0 B l E v3 m i W) : L2 w0 B l E v3 m (i + 1) W := by
  have e : done ++ g :: h :: r = (done ++ [g]) ++ h :: r := by simp
  rw [e] at e3 e5 hr
  refine { rows := ⟨vs, done ++ [g], h :: r, by simp [hd], ?_, e3, fun x hx => e4 x (List.mem_cons_of_mem _ hx), e5, hr⟩, en := hW.en, bel := hW.bel, bE := hW.bE, bW := hW.bW }
  rw [← e2, adj, hc]
  simp
theorem L2.moved {w0 W : World} {B : Nat} {l : List UInt8} {E : Nat} {v3 : Value} {m i : Nat} {vs : List Value} {done r : List (List UInt8)} {g h : List UInt8} {z : UInt8} (hz : g.getLast? = some z) (hd : done.length = i) (e2 : done ++ adj (g :: h :: r) = adj (groups l)) (e3 : (done ++ g :: h :: r).flatten = l) (e4 : ∀ x ∈ g :: h :: r, x ≠ []) (e5 : (done ++ g :: h :: r).length = m) (hr : Rws B W v3 vs (done ++ g.dropLast :: (z :: h) :: r)) (hc : (upHead g && loHead h) = true) (en : W.heap[E]? = some (.cells #[] 9 (0, 0))) (bel : Below B w0 W) (bE : B ≤ E) (bW : B ≤ W.heap.size) : L2 w0 B l E v3 m (i + 1) W := by
  have e : ∀ x y : List UInt8, done ++ x :: y :: r = (done ++ [x]) ++ y :: r := fun x y => by simp
  have hg : g.dropLast ++ [z] = g := by
    obtain ⟨ys, rfl⟩ := List.getLast?_eq_some_iff.1 hz
    rw [List.dropLast_concat]
  rw [e] at hr
  refine { rows := ⟨vs, done ++ [g.dropLast], (z :: h) :: r, by simp [hd], ?_, ?_, ?_, ?_, hr⟩, en := en, bel := bel, bE := bE, bW := bW }
  · rw [← e2, adj, hc, hz]
    simp
  · rw [← e3]
    conv => rhs; rw [← hg]
    simp
  · intro x hx
    rcases List.mem_cons.1 hx with rfl | hx
    · simp
    · exact e4 x (List.mem_cons_of_mem _ (List.mem_cons_of_mem _ hx))
  · simpa using e5

theorem infoR' : ∃ i : TypeInfo, Tryd.prog.info? 21 = some i ∧ i.zero = some (.int .i32 0) ∧ i.size = 1 ∧ i.bytes = 4 := by
  obtain ⟨i, h1, h2⟩ := Option.map_eq_some_iff.1 infoR
  simp only [Prod.mk.injEq] at h2
  exact ⟨i, h1, h2.1, h2.2.1, h2.2.2⟩
theorem news_row {B : Nat} {W : World} {P c : Nat} {g : List UInt8} {n : Nat} (h : RowAt B W (.slice (some ⟨P, 0, none⟩) n c) g) (o : Obj) : ∀ j u, (runeV g)[j]? = some u → (W.alloc o).drew.cell? ((⟨P, 0, none⟩ : Addr).add j) = some u := fun j u hj => by
  have hadd : (⟨P, 0, none⟩ : Addr).add j = ⟨P, j, none⟩ := by unfold Addr.add; split <;> simp_all
  rw [hadd]
  have hn : n = g.length := by
    rcases h.2 with ⟨h1, h2⟩ | ⟨G, cap, cur, hv, _⟩
    · cases h1
    · simp only [Value.slice.injEq] at hv; exact hv.2.1
  subst hn
  obtain ⟨h1, _, _, cur, h2⟩ := own_at h hj
  rw [blk_cell (blk_drew (blk_alloc h2 o)), ← blk_cell h2]
  exact h1
/-- A row set before another's head, in memory of its own, and stored. -/
theorem moveIn {B : Nat} {W W5 : World} {G c m i n P' cu' gq cap : Nat} {h : List UInt8} {z : UInt8} {o : Obj} {vs : List Value} {gs : List (List UInt8)} (hr : Rws B W (.slice (some ⟨G, 0, none⟩) m c) vs gs) (hm : gs.length = m) (hu : vs[i]? = some (.slice (some ⟨P', 0, none⟩) n cu')) (hB : B ≤ W.heap.size) (HO : W5.ownsRow W.heap.size 21 1 (.slice (some ⟨gq, 0, none⟩) (1 + n) cap) (1 + n) ([.int .i32 (z.toNat : Int)] ++ runeV h)) (hn : h.length = n) (HG : (W.alloc o).drew.grownBy W5 (Value.slice (some ⟨W.heap.size, 0, none⟩) 1 1).ownBlock) :
    Rws B (W5.setCell ⟨G, i, none⟩ (.slice (some ⟨gq, 0, none⟩) (1 + n) cap)) (.slice (some ⟨G, 0, none⟩) m c) (vs.set i (.slice (some ⟨gq, 0, none⟩) (1 + n) cap)) (gs.set i (z :: h)) ∧ Below B W (W5.setCell ⟨G, i, none⟩ (.slice (some ⟨gq, 0, none⟩) (1 + n) cap)) ∧ ∀ k o', W.heap[k]? = some o' → k ≠ G → (W5.setCell ⟨G, i, none⟩ (.slice (some ⟨gq, 0, none⟩) (1 + n) cap)).heap[k]? = some o' := by
  have hD : Below W.heap.size W (W.alloc o).drew := below_drew1 ((Below.refl _ _).alloc (Nat.le_refl _) o)
  have hb : Below W.heap.size W W5 := hD.grown HG hD.size (fun k hk => by have : W.heap.size = k := Option.some.inj hk; omega)
  have hg : W.grownBy W5 (Value.slice (some ⟨P', 0, none⟩) n cu').ownBlock := ⟨hb.os, hb.tape, hb.output, hb.size, fun k hk _ => hb.block k hk⟩
  have hBG : B ≤ G := own_base hr.own G rfl
  have row : RowAt B W5 (.slice (some ⟨gq, 0, none⟩) (1 + n) cap) (z :: h) := by
    have hL : (z :: h).length = 1 + n := by rw [List.length_cons, hn, Nat.add_comm]
    unfold RowAt
    rw [hL]
    exact own_weaken HO hB
  refine ⟨hr.put (by rw [hm]) hu hg row (Or.inr (Or.inl ⟨gq, rfl, own_base HO gq rfl⟩)), (hb.mono hB).setCell (p := ⟨G, i, none⟩) hBG _, fun k o' hk hne => ?_⟩
  exact (Below.heap_setCell _ _ _ _ hne).trans ((hb.block k (blk_lt hk)).trans hk)
theorem own_run {B : Nat} {W : World} {u : Value} {g : List UInt8} (h : RowAt B W u g) (ha : ∀ b ∈ g, b.toNat < 128) : (convert 32 9 u).run Tryd.prog W = .ok (.string ⟨g.toArray⟩) W := by
  rcases h.2 with ⟨hv, h0⟩ | ⟨R, cap, cur, hv, _⟩
  · have : g = [] := List.length_eq_zero_iff.1 h0
    subst this
    rw [hv]
    exact run_convert_runes_nil W _ _ 21 0 0 Tryd.underlying32 Tryd.underlying21 Tryd.underlying9
  · subst hv
    have := run_convert_runes (P := Tryd.prog) W 32 9 21 ⟨R, 0, none⟩ g.length cap (codes g) (by rw [codes_len]; exact Nat.le_refl _) Tryd.underlying32 Tryd.underlying21 Tryd.underlying9 (fun j hj => by
      have e : (⟨R, 0, none⟩ : Addr).add j = ⟨R, j, none⟩ := by simp [Addr.add]; exact fun h => h.symm
      rw [e]
      refine (own_at h (i := j) ?_).1
      unfold runeV
      rw [List.getElem?_map, List.getElem?_eq_getElem hj, List.getD_eq_getElem?_getD, List.getElem?_eq_getElem hj]
      rfl)
    rw [this, List.take_of_length_le (by rw [codes_len]; exact Nat.le_refl _), runesBytes_ascii g ha]
def strV (g : List UInt8) : Value := .string ⟨g.toArray⟩
structure L3 (w0 : World) (B : Nat) (gs : List (List UInt8)) (v3 : Value) (vs : List Value) (v2 : Value) (j : Nat) (W : World) : Prop where
  own : W.ownsRow B 9 1 v2 ((gs.take j).filter keepG).length (((gs.take j).filter keepG).map strV)
  rows : Rws B W v3 vs gs
  bel : Below B w0 W
  bW : B ≤ W.heap.size
theorem Rws.grow {B : Nat} {W W' : World} {v v2 : Value} {vs : List Value} {gs : List (List UInt8)} {n : Nat} {xs : List Value} (h : Rws B W v vs gs) (h2 : W.ownsRow B 9 1 v2 n xs) (hg : W.grownBy W' v2.ownBlock) : Rws B W' v vs gs := by
  refine h.move (fun k hk => hg.block k (h.lt k hk) (fun e => ?_))
  rcases hk with hk | ⟨i, u, hu, hk⟩
  · exact own_ne h.own h2 (by decide) hk e.symm
  · have hi : i < gs.length := by
      rw [← h.len]
      rcases Nat.lt_or_ge i vs.length with h' | h'
      · exact h'
      · rw [List.getElem?_eq_none h'] at hu; cases hu
    exact own_ne (h.row i u _ hu (List.getElem?_eq_getElem hi)) h2 (by decide) hk e.symm
theorem L3.below {w0 W W' : World} {B : Nat} {gs : List (List UInt8)} {v3 v2 : Value} {vs : List Value} {j : Nat} (h : L3 w0 B gs v3 vs v2 j W) (hb : Below W.heap.size W W') : L3 w0 B gs v3 vs v2 j W' :=
  { own := own_move h.own (fun k hk => hb.block k (own_lt h.own k hk)), rows := h.rows.below hb, bel := h.bel.trans (hb.mono h.bW), bW := Nat.le_trans h.bW hb.size }
theorem below_bytesWorld (w : World) (e : TypeId) (s : ByteArray) : Below w.heap.size w (Lib.bytesWorld w e s) :=
  ⟨rfl, rfl, rfl, by rw [Lib.bytesWorld_size]; omega, fun k hk => Lib.bytesWorld_at_old w e s k hk⟩
theorem bytes_ne {a b : ByteArray} (h : a.data.toList ≠ b.data.toList) : (a == b) = false := by
  have : ∀ a b : ByteArray, (a == b) = (a.data == b.data) := fun a b => by cases a; cases b; rfl
  rw [this, beq_eq_false_iff_ne]
  intro e
  exact h (by rw [e])
theorem bytes_eq (a : ByteArray) : (a == a) = true := by
  have : ∀ a b : ByteArray, (a == b) = (a.data == b.data) := fun a b => by cases a; cases b; rfl
  rw [this, beq_self_eq_true]
set_option maxHeartbeats 16000000 in
set_option maxRecDepth 100000 in
theorem split_ (s : ByteArray) (hs : Ascii s) (hz : s.size ≤ 1000000) (w : World) (hT : LaidW w) :
    Calls Tryd.prog 9 #[.string s] w fun e w' => ∃ v0_ : Value, e = .returned v0_ ∧ Kd.R Kd.string 9 w' w.heap.size (fun _ => True) v0_ ((camel s.data.toList).map fun s => ⟨s.toArray⟩) ∧ Below w.heap.size w w' := by
  have HS := Aside0.mk hs
  have HV := Aside0.mk (valid s hs hz w hT)
  have HT := Aside0.mk hT
  clear hs hT
  go_enter Tryd.func9, Tryd.ntmps9
  go_upto_region 3 with ((go_at_call 10; with_reducible refine HV.out.mono ?_); rintro e w1 ⟨rfl, b1⟩; have B1 := Aside0.mk b1; clear b1)
  clear HV
  have hs1 := B1.out.size
  go_upto_region 7 with (fail)
  obtain ⟨E, hE⟩ : ∃ E, w1.heap.size = E := ⟨_, rfl⟩
  have he2 := blk_new w1 (.cells #[] 9)
  have hb2 : Below w.heap.size w (w1.alloc (.cells #[] 9)) := B1.out.alloc hs1 _
  have hz2 : (w1.alloc (.cells #[] 9)).heap.size = w1.heap.size + 1 := by simp
  rw [hE] at he2 hz2 hs1 ⊢
  change Code.wp _ _ _ _ (w1.alloc (.cells #[] 9))
  generalize w1.alloc (.cells #[] 9) = w2 at *
  clear hE
  obtain ⟨I, hI⟩ : ∃ I, w2.heap.size = I := ⟨_, rfl⟩
  have hbi : Below w2.heap.size w2 (w2.iter s 0) := below_alloc (Below.refl _ _) _
  have H1 : Aside0 (L1 w w.heap.size s I E (.slice none 0 0) (.int .i64 0) 0 (w2.iter s 0)) := ⟨{ last := rfl, rows := ⟨[], by simpa [groups] using Rws.nil _ _⟩, it := by rw [← hI]; exact w2.iter_heap s 0, en := blk_below he2 hbi, bel := hb2.trans (hbi.mono (by omega)), bI := by omega, bE := hs1, bW := by have : (w2.iter s 0).heap.size = w2.heap.size + 1 := (by simp [World.iter]); omega }⟩
  clear he2 hb2 hz2 hs1 hbi B1
  go_upto_block 0 with (fail)
  clear hI
  change Code.wp _ _ _ _ (w2.iter s 0)
  generalize w2.iter s 0 = w3 at *
  go_cut [3, 4] from 20 to 20 (fun v3 v4 wx => ∃ vs, Aside0 (Rws w.heap.size wx v3 vs (groups s.data.toList)) ∧ Aside0 (wx.heap[E]? = some (.cells #[] 9 (0, 0))) ∧ Aside0 (Below w.heap.size w wx ∧ w.heap.size ≤ E ∧ w.heap.size ≤ wx.heap.size))
  case first =>
    go_wp2_with (fail)
    have hn : s.size = s.data.toList.length := size_list s
    have HN := Aside0.mk hn
    clear hn
    go_loopg [3, 4] s.size (fun kq v3 v4 w' => ∃ i : Nat, Aside0 (i + kq = s.size) ∧ Aside0 (L1 w w.heap.size s I E v3 v4 i w'))
    case atStart => exact ⟨0, ⟨by omega⟩, H1⟩
    case round =>
      clear H1
      obtain ⟨i, HI, HR⟩ := hrel
      have hit := HR.out.it
      by_cases hi : i < s.size
      · obtain ⟨b, hb⟩ : ∃ b, s[i]'hi = b := ⟨_, rfl⟩
        have hil : i < s.data.toList.length := by have := HN.out; omega
        have hbm : b ∈ s.data.toList := by rw [← hb]; exact Array.getElem_mem_toList (xs := s.data) hi
        have hbl : s.data.toList[i] = b := hb
        have hb1 := HS.out b hbm
        have hdec : Utf8.decode s i = (b.toNat, 1) := by have := Go.decode_ascii s i hi (by rw [hb]; exact hb1); rw [hb] at this; exact this
        have hnx : ∀ ty, (Instr.next (.pointer (some ⟨I, 0, none⟩)) true ty).run Tryd.prog wr = .ok (.tuple #[.bool true, .int .i64 (i : Int), .int .i32 (b.toNat : Int)]) (wr.iterAt I s (i + 1)) := by
          intro ty
          have := Lib.run_next_any_at (P := Tryd.prog) wr I s i ty hit hi
          rw [hdec] at this
          exact this
        have hg := It.grown_iterAt (q := i + 1) hit
        obtain ⟨vs, hrw⟩ := HR.out.rows
        have hlast := HR.out.last
        have R2 := Aside0.mk (hrw.iter hit hg)
        have I2 := Aside0.mk (Lib.iterAt_heap wr I s i (i + 1) hit)
        have E2 : Aside0 ((wr.iterAt I s (i + 1)).heap[E]? = some (.cells #[] 9 (0, 0))) := ⟨blk_grown HR.out.en hg (fun e => by obtain rfl := Option.some.inj e; have := HR.out.en; rw [hit] at this; cases this)⟩
        have B2 : Aside0 (Below w.heap.size w (wr.iterAt I s (i + 1))) := ⟨HR.out.bel.grown hg HR.out.bW (fun k hk => by obtain rfl := Option.some.inj hk; exact HR.out.bI)⟩
        have Z2 := Aside0.mk (Nat.le_trans HR.out.bW hg.size)
        have LW2 := Aside0.mk (HT.out.on B2.out)
        have htk : s.data.toList.take (i + 1) = s.data.toList.take i ++ [b] := by rw [List.take_succ_eq_append_getElem hil, hbl]
        have HTK := Aside0.mk htk
        have BI := Aside0.mk (And.intro HR.out.bI HR.out.bE)
        have HLEN := Aside0.mk (groups_len (s.data.toList.take i))
        obtain ⟨a, ha⟩ : ∃ a, s.data.toList.take i = a := ⟨_, rfl⟩
        rw [ha] at R2 HTK hlast HLEN
        have hal : a.length ≤ 1000000 := by rw [← ha, List.length_take]; omega
        have C1 := Aside0.mk (isLow b hb1 _ LW2.out)
        have C2 := Aside0.mk (isUp b hb1 _ LW2.out)
        have C3 := Aside0.mk (isDig b hb1 (wr.iterAt I s (i + 1)))
        obtain ⟨hc1, hc2⟩ := cls_pos b
        subst hlast
        clear hbl hdec hg hrw htk ha hbm hb hil hit HR
        go_upto_block 2 with (fail)
        clear hnx
        change Code.wp _ _ _ _ (wr.iterAt I s (i + 1))
        generalize wr.iterAt I s (i + 1) = w4 at *
        go_cut [5] from 23 to 23 (fun v5 wx => v5 = .int .i64 (cls b : Int) ∧ w4 = wx)
        case first =>
          by_cases k1 : cls b = 1
          · have q1 := C1.out
            rw [show (cls b == 1) = true from beq_iff_eq.mpr k1] at q1
            have Q1 := Aside0.mk q1
            have K1 := Aside0.mk k1
            clear k1 q1
            go_wp2_with ((go_at_call 11; with_reducible refine Q1.out.mono ?_); rintro e w' ⟨rfl, rfl⟩)
            go_meet
            case rel => exact ⟨by rw [K1.out]; rfl, rfl⟩
          have q1 := C1.out
          rw [show (cls b == 1) = false from beq_eq_false_iff_ne.mpr k1] at q1
          have Q1 := Aside0.mk q1
          by_cases k2 : cls b = 2
          · have q2 := C2.out
            rw [show (cls b == 2) = true from beq_iff_eq.mpr k2] at q2
            have Q2 := Aside0.mk q2
            have K2 := Aside0.mk k2
            clear k1 k2 q1 q2
            go_wp2_with (first | ((go_at_call 11; with_reducible refine Q1.out.mono ?_); rintro e w' ⟨rfl, rfl⟩) | ((go_at_call 12; with_reducible refine Q2.out.mono ?_); rintro e w' ⟨rfl, rfl⟩))
            go_meet
            case rel => exact ⟨by rw [K2.out]; rfl, rfl⟩
          have q2 := C2.out
          rw [show (cls b == 2) = false from beq_eq_false_iff_ne.mpr k2] at q2
          have Q2 := Aside0.mk q2
          by_cases k3 : cls b = 3
          · have q3 := C3.out
            rw [show (cls b == 3) = true from beq_iff_eq.mpr k3] at q3
            have Q3 := Aside0.mk q3
            have K3 := Aside0.mk k3
            clear k1 k2 k3 q1 q2 q3
            go_wp2_with (first | ((go_at_call 11; with_reducible refine Q1.out.mono ?_); rintro e w' ⟨rfl, rfl⟩) | ((go_at_call 12; with_reducible refine Q2.out.mono ?_); rintro e w' ⟨rfl, rfl⟩) | ((go_at_call 13; with_reducible refine Q3.out.mono ?_); rintro e w' ⟨rfl, rfl⟩))
            go_meet
            case rel => exact ⟨by rw [K3.out]; rfl, rfl⟩
          have q3 := C3.out
          rw [show (cls b == 3) = false from beq_eq_false_iff_ne.mpr k3] at q3
          have Q3 := Aside0.mk q3
          have K4 : Aside0 (cls b = 4) := ⟨by omega⟩
          clear k1 k2 k3 q1 q2 q3
          go_wp2_with (first | ((go_at_call 11; with_reducible refine Q1.out.mono ?_); rintro e w' ⟨rfl, rfl⟩) | ((go_at_call 12; with_reducible refine Q2.out.mono ?_); rintro e w' ⟨rfl, rfl⟩) | ((go_at_call 13; with_reducible refine Q3.out.mono ?_); rintro e w' ⟨rfl, rfl⟩))
          go_meet
          case rel => exact ⟨by rw [K4.out]; rfl, rfl⟩
        case rest =>
          obtain ⟨rfl, rfl⟩ := hcut
          clear C1 C2 C3
          have hlap : lastC (a ++ [b]) = cls b := by unfold lastC; rw [List.getLast?_concat]
          have HLAP := Aside0.mk hlap
          clear hlap
          by_cases hcl : lastC a = cls b
          · have e1 : ((cls b : Int) == (lastC a : Int)) = true := beq_iff_eq.mpr (by omega)
            obtain ⟨gs, g, hg1, hg2⟩ := step_same hcl
            have HG2 := Aside0.mk hg2
            have hr := R2.out
            rw [hg1] at hr
            have hlen := HLEN.out
            rw [hg1] at hlen
            have hgl : g.length ≤ 1000000 := Nat.le_trans (hlen.2 g (List.mem_append_right _ (List.mem_singleton.2 rfl))) hal
            have hgsl : gs.length + 1 ≤ 1000000 := by have := hlen.1; simp at this; omega
            have hvl : vs.length = gs.length + 1 := by rw [hr.len]; simp
            obtain ⟨u, hu⟩ : ∃ u, vs[gs.length]? = some u := ⟨vs[gs.length]'(by omega), List.getElem?_eq_getElem _⟩
            have hru : RowAt w.heap.size w4 u g := hr.row gs.length u g hu (by rw [List.getElem?_append_right (Nat.le_refl _), Nat.sub_self]; rfl)
            obtain ⟨n, hn⟩ : ∃ n, gs.length = n := ⟨_, rfl⟩
            have hgl2 : (gs ++ [g]).length = n + 1 := by simp [hn]
            obtain ⟨G, c, hv⟩ : ∃ G c, u3 = .slice (some ⟨G, 0, none⟩) (n + 1) c := by
              rcases hr.own.2 with ⟨_, h0⟩ | ⟨G, c, cur, hv, _⟩
              · simp at h0
              · exact ⟨G, c, by rw [hv, hgl2]⟩
            have hvG : u3 = .slice (some ⟨G, 0, none⟩) (gs ++ [g]).length c := by rw [hv, hgl2]
            have how := hr.own
            rw [hvG, hgl2] at how
            rw [hn] at hu
            obtain ⟨d0, d1, dc, cur, dG⟩ := own_at how hu
            obtain ⟨A, cu, hu'⟩ := own_form hru
            have HR1 := Aside0.mk hr
            have HRU := Aside0.mk hru
            have HU := Aside0.mk hu
            have HV := Aside0.mk hvG
            have DG := Aside0.mk dG
            have hns : n + 1 ≤ 1000000 := by omega
            have HNN := Aside0.mk hn
            clear hr how hg1 hg2 hlen hru hgl2 hvl hgsl hu hvG dG hn
            subst hu' hv
            go_wp2_with ((with_reducible refine gate_builtin (b := .append) (xs := #[.tmp 44, .tmp 46]) rfl ?_); at_builtin; refine print_append_cells (w0 := w) w.heap.size rfl (.tmp 44) (.tmp 46) 32 21 (.int .i32 0) 1 4 rfl Tryd.underlying32 infoR rfl (by decide) (by decide) (.slice A g.length cu) g.length (runeV g) [.int .i32 (b.toNat : Int)] rfl rfl rfl (one_val rfl) ?aO ?aB ?aS ?aL ?_; (case aO => exact HRU.out); (case aB => exact B2.out); (case aS => exact Z2.out); (case aL => omega); intro v5 w5 ho hb hg hat; obtain ⟨A5, c5, rfl⟩ := own_form ho; have HO := Aside0.mk ho; have HBB := Aside0.mk hb; have HG := Aside0.mk hg; have HAT := Aside0.mk hat; have hG5 := blk_grown DG.out hg (fun e => own_ne HRU.out HR1.out.own (by decide) e.symm (by rw [HV.out]; rfl)); have d2 : w5.cell? ⟨G, n, none⟩ = some (.slice A g.length cu) := (by rw [blk_cell hG5, ← blk_cell DG.out]; exact d0); have d3 := blk_frozen hG5 n; clear ho hb hg hat hG5)
            go_roundg (gk - 1)
            case measure => have := HI.out; omega
            case rel =>
              have hn := HNN.out
              have e47 : RowAt w.heap.size w5 (.slice A5 (g.length + 1) c5) (g ++ [b]) := by
                have := HO.out
                unfold RowAt
                rw [runeV_snoc, List.length_append]
                exact this
              have hat : (Value.slice A5 (g.length + 1) c5).ownBlock = (Value.slice A g.length cu).ownBlock ∨ (∃ b, (Value.slice A5 (g.length + 1) c5).ownBlock = some b ∧ w4.heap.size ≤ b) ∨ (Value.slice A5 (g.length + 1) c5).ownBlock = none := by
                rcases HAT.out with h | h
                · exact Or.inl h
                · exact Or.inr (Or.inl h)
              have hp := HR1.out.put HV.out HU.out HG.out e47 hat
              have es : (gs ++ [g]).set n (g ++ [b]) = groups (a ++ [b]) := by
                rw [HG2.out, ← hn, List.set_append_right _ _ (Nat.le_refl _), Nat.sub_self]
                rfl
              rw [es, ← HTK.out] at hp
              have hGE : E ≠ G := by
                intro e
                have := E2.out
                rw [e, DG.out] at this
                simp at this
              have hEu : some E ≠ (Value.slice A g.length cu).ownBlock := by
                intro e
                obtain ⟨cc, hcc⟩ := own_typed HRU.out E e.symm
                have := E2.out
                rw [hcc] at this
                simp at this
              have hIu : some I ≠ (Value.slice A g.length cu).ownBlock := fun e => own_ne_iter HRU.out I2.out e.symm
              have hIG : I ≠ G := by
                intro e
                have := I2.out
                rw [e, DG.out] at this
                simp at this
              have hBG : w.heap.size ≤ G := own_base HR1.out.own G rfl
              refine ⟨i + 1, ⟨by have := HI.out; omega⟩, ⟨{ last := ?_, rows := ⟨_, hp⟩, it := ?_, en := ?_, bel := ?_, bI := BI.out.1, bE := BI.out.2, bW := ?_ }⟩⟩
              · rw [HTK.out, HLAP.out]
              · exact (Below.heap_setCell _ _ _ _ hIG).trans (blk_grown I2.out HG.out hIu)
              · exact (Below.heap_setCell _ _ _ _ hGE).trans (blk_grown E2.out HG.out hEu)
              · exact HBB.out.setCell (p := ⟨G, n, none⟩) hBG _
              · have := HG.out.size; have := Z2.out; simp; omega
          · have e1 : ((cls b : Int) == (lastC a : Int)) = false := beq_eq_false_iff_ne.mpr (by omega)
            have HG2 := Aside0.mk (step_new hcl)
            have hlen := HLEN.out.1
            have hba : Below w4.heap.size w4 (w4.alloc (.cells #[.int .i32 (b.toNat : Int)] 21)) := below_alloc (Below.refl _ _) _
            have RA := Aside0.mk (R2.out.below hba)
            have BA := Aside0.mk (B2.out.trans (hba.mono Z2.out))
            have ZA : Aside0 (w.heap.size ≤ (w4.alloc (.cells #[.int .i32 (b.toNat : Int)] 21)).heap.size) := ⟨Nat.le_trans Z2.out hba.size⟩
            have NA := Aside0.mk (blk_new w4 (.cells #[.int .i32 (b.toNat : Int)] 21))
            have IA := Aside0.mk (blk_below I2.out hba)
            have EA := Aside0.mk (blk_below E2.out hba)
            have HFR : Aside0 (∀ k, (Value.slice (some ⟨w4.heap.size, 0, none⟩) 1 1).ownBlock = some k → ∀ (i : Nat) (u' : Value), vs[i]? = some u' → u'.ownBlock ≠ some k) := ⟨fun k hk i u' hu' e => by
              have h1 := R2.out.lt k (Or.inr ⟨i, u', hu', e⟩)
              have h2 : w4.heap.size = k := Option.some.inj hk
              omega⟩
            have hgl : (groups a).length ≤ 1000000 := by omega
            clear hcl hlen hba
            go_wp2_with ((with_reducible refine gate_builtin (b := .append) (xs := #[.tmp 49, .tmp 52]) rfl ?_); at_builtin; refine print_append_cells (w0 := w) (W := w4.alloc (.cells #[.int .i32 (b.toNat : Int)] 21)) w.heap.size rfl (.tmp 49) (.tmp 52) 30 32 (.slice none 0 0) 1 24 rfl Tryd.underlying30 infoS rfl (by decide) (by decide) u3 (groups a).length vs [.slice (some ⟨w4.heap.size, 0, none⟩) 1 1] rfl ?aX rfl (one_val rfl) ?aO ?aB ?aS ?aL ?_; (case aX => first | rfl | simp [Act.eval, Act.put]); (case aO => exact RA.out.own); (case aB => exact BA.out); (case aS => exact ZA.out); (case aL => omega); intro v5 w5 ho hb hg hat; obtain ⟨A5, c5, rfl⟩ := own_form ho; have HO := Aside0.mk ho; have HBB := Aside0.mk hb; have HG := Aside0.mk hg; clear ho hb hg hat)
            go_roundg (gk - 1)
            case measure => have := HI.out; omega
            case rel =>
              have hNv : some w4.heap.size ≠ u3.ownBlock := by
                intro e
                obtain ⟨cc, hcc⟩ := own_typed RA.out.own _ e.symm
                have := NA.out
                rw [hcc] at this
                simp at this
              have hrow : RowAt w.heap.size w5 (.slice (some ⟨w4.heap.size, 0, none⟩) 1 1) [b] := ⟨rfl, Or.inr ⟨w4.heap.size, 1, #[.int .i32 (b.toNat : Int)], rfl, Z2.out, blk_grown NA.out HG.out hNv, Nat.le_refl _, by unfold maxLen; omega, rfl, rfl⟩⟩
              have hp := RA.out.push HG.out HO.out hrow HFR.out
              rw [← HG2.out, ← HTK.out] at hp
              have hEv : some E ≠ u3.ownBlock := by
                intro e
                obtain ⟨cc, hcc⟩ := own_typed RA.out.own _ e.symm
                have := EA.out
                rw [hcc] at this
                simp at this
              have hIv : some I ≠ u3.ownBlock := fun e => own_ne_iter RA.out.own IA.out e.symm
              refine ⟨i + 1, ⟨by have := HI.out; omega⟩, ⟨{ last := ?_, rows := ⟨_, hp⟩, it := blk_grown IA.out HG.out hIv, en := blk_grown EA.out HG.out hEv, bel := HBB.out, bI := BI.out.1, bE := BI.out.2, bW := Nat.le_trans ZA.out HG.out.size }⟩⟩
              rw [HTK.out, HLAP.out]
      · have hii : i = s.size := by have := HI.out; omega
        have hnx : ∀ ty, (Instr.next (.pointer (some ⟨I, 0, none⟩)) true ty).run Tryd.prog wr = .ok (.tuple #[.bool false]) wr := fun ty => Lib.run_next_end_at (P := Tryd.prog) wr I s i ty hit (by omega)
        obtain ⟨vs, hrw⟩ := HR.out.rows
        have hlast := HR.out.last
        have htk : s.data.toList.take i = s.data.toList := by rw [hii, HN.out, List.take_length]
        rw [htk] at hrw
        have HRW := Aside0.mk hrw
        subst hlast
        clear hit hii htk hrw
        go_wp2
        go_meet
        case rel => exact ⟨vs, HRW, ⟨HR.out.en⟩, ⟨HR.out.bel, HR.out.bE, HR.out.bW⟩⟩
  case rest =>
    obtain ⟨vs, HRW, HE, HB⟩ := hcut
    obtain ⟨m, hm⟩ : ∃ m, (groups s.data.toList).length = m := ⟨_, rfl⟩
    have hml : m ≤ 1000000 := by have := (groups_len s.data.toList).1; have := size_list s; omega
    obtain ⟨A, c, hv3⟩ := own_form HRW.out.own
    rw [hm] at hv3
    subst hv3
    have H2 : Aside0 (L2 w w.heap.size s.data.toList E (.slice A m c) m 0 _) := ⟨{ rows := ⟨vs, [], groups s.data.toList, rfl, rfl, groups_flat _, groups_nonempty _, hm, HRW.out⟩, en := HE.out, bel := HB.out.1, bE := HB.out.2.1, bW := HB.out.2.2 }⟩
    clear HRW HE HB vs H1 hm
    go_upto_block 3 with (fail)
    go_cut [8] from 55 to 59 (fun v8 wx => ∃ vs, Aside0 (Rws w.heap.size wx (.slice A m c) vs (adj (groups s.data.toList))) ∧ Aside0 (wx.heap[E]? = some (.cells #[] 9 (0, 0))) ∧ Aside0 (Below w.heap.size w wx ∧ w.heap.size ≤ E ∧ w.heap.size ≤ wx.heap.size))
    case first =>
      go_wp2_with (fail)
      go_loopg [8] m (fun kq v8 w' => ∃ i : Nat, Aside0 (i + kq = m) ∧ v8 = .int .i64 (i : Int) ∧ Aside0 (L2 w w.heap.size s.data.toList E (.slice A m c) m i w'))
      case atStart => exact ⟨0, ⟨by omega⟩, rfl, H2⟩
      case round =>
        clear H2
        obtain ⟨i, HI, rfl, HR⟩ := hrel
        have ew : IntKind.i64.wrap ((m : Int) - 1) = (m : Int) - 1 := Go.IntWalk.i64_in _ (by omega)
        by_cases hi : i + 1 < m
        · obtain ⟨vs, done, rest, e1, e2, e3, e4, e5, hr⟩ := HR.out.rows
          obtain ⟨g, h, r, rfl⟩ : ∃ g h r, rest = g :: h :: r := by
            match rest, (show 2 ≤ rest.length by rw [List.length_append] at e5; omega) with
            | g :: h :: r, _ => exact ⟨g, h, r, rfl⟩
          have p1 : decide ((i : Int) < (m : Int) - 1) = true := decide_eq_true (by omega)
          obtain ⟨a, g', rfl⟩ : ∃ a g', g = a :: g' := by
            cases g with
            | nil => exact absurd rfl (e4 [] (List.mem_cons_self ..))
            | cons a g' => exact ⟨a, g', rfl⟩
          obtain ⟨b, h', rfl⟩ : ∃ b h', h = b :: h' := by
            cases h with
            | nil => exact absurd rfl (e4 [] (List.mem_cons_of_mem _ (List.mem_cons_self ..)))
            | cons b h' => exact ⟨b, h', rfl⟩
          have hvl := hr.len
          rw [e5] at hvl
          obtain ⟨u, hu⟩ : ∃ u, vs[i]? = some u := ⟨vs[i]'(by omega), List.getElem?_eq_getElem _⟩
          obtain ⟨u', hu'⟩ : ∃ u', vs[i + 1]? = some u' := ⟨vs[i + 1]'(by omega), List.getElem?_eq_getElem _⟩
          have hgu : (done ++ (a :: g') :: (b :: h') :: r)[i]? = some (a :: g') := by rw [List.getElem?_append_right (by omega), e1, Nat.sub_self]; rfl
          have hgu' : (done ++ (a :: g') :: (b :: h') :: r)[i + 1]? = some (b :: h') := by rw [List.getElem?_append_right (by omega), e1, show i + 1 - i = 1 by omega]; rfl
          have hru := hr.row i u _ hu hgu
          have hru' := hr.row (i + 1) u' _ hu' hgu'
          have hmg : a :: g' ∈ done ++ (a :: g') :: (b :: h') :: r := by simp
          have hmh : b :: h' ∈ done ++ (a :: g') :: (b :: h') :: r := by simp
          have hsz : s.data.toList.length ≤ 1000000 := by have := size_list s; omega
          have hgl : g'.length + 1 ≤ 1000000 := by have := flat_len hmg; rw [e3] at this; simp at this; omega
          have hhl : h'.length + 1 ≤ 1000000 := by have := flat_len hmh; rw [e3] at this; simp at this; omega
          have ha7 : a.toNat < 128 := HS.out a (by rw [← e3]; exact flat_mem hmg (List.mem_cons_self ..))
          have hb7 : b.toNat < 128 := HS.out b (by rw [← e3]; exact flat_mem hmh (List.mem_cons_self ..))
          obtain ⟨P, cu, rfl, hP⟩ := row_at hru
          obtain ⟨P', cu', rfl, hP'⟩ := row_at hru'
          have how := hr.own
          rw [e5] at how
          obtain ⟨G, rfl⟩ : ∃ G, A = some ⟨G, 0, none⟩ := by
            rcases how.2 with ⟨h1, h2⟩ | ⟨G, cap, cur, hv, _⟩
            · omega
            · simp only [Value.slice.injEq] at hv
              exact ⟨G, hv.1⟩
          obtain ⟨d0, f0, dc, cur, dG⟩ := own_at how hu
          obtain ⟨d1, f1, _, _, _⟩ := own_at how hu'
          have c0 := hP 0 a rfl
          have c1 := hP' 0 b rfl
          have LW := Aside0.mk (HT.out.on HR.out.bel)
          have C1 := Aside0.mk (isUp a ha7 _ LW.out)
          have C2 := Aside0.mk (isLow b hb7 _ LW.out)
          have ew2 : IntKind.i64.wrap ((i : Int) + 1) = (i : Int) + 1 := Go.IntWalk.i64_in _ (by omega)
          have HROW := Aside0.mk hr
          have HOW := Aside0.mk how
          have HRU := Aside0.mk hru
          have HRU' := Aside0.mk hru'
          have HU := Aside0.mk hu
          have HU' := Aside0.mk hu'
          have EQ := Aside0.mk (And.intro e1 (And.intro e2 (And.intro e3 (And.intro e4 e5))))
          have HP := Aside0.mk hP
          have HP' := Aside0.mk hP'
          have DG := Aside0.mk dG
          clear hr how hru hru' hu hu' hgu hgu' hmg hmh e1 e2 e3 e4 e5 hP hP' dG hvl
          by_cases k1 : cls a = 2
          · have q1 := C1.out
            rw [show (cls a == 2) = true from beq_iff_eq.mpr k1] at q1
            have Q1 := Aside0.mk q1
            clear q1
            by_cases k2 : cls b = 1
            · have q2 := C2.out
              rw [show (cls b == 1) = true from beq_iff_eq.mpr k2] at q2
              have Q2 := Aside0.mk q2
              have hc : (upHead (a :: g') && loHead (b :: h')) = true := by
                show (cls a == 2 && cls b == 1) = true
                rw [k1, k2]; rfl
              have HC := Aside0.mk hc
              clear q2 k1 k2 hc
              go_upto_region 25 with (first | ((go_at_call 12; with_reducible refine Q1.out.mono ?_); rintro e w' ⟨rfl, rfl⟩) | ((go_at_call 11; with_reducible refine Q2.out.mono ?_); rintro e w' ⟨rfl, rfl⟩))
              obtain ⟨z, hz0⟩ : ∃ z, (a :: g')[g'.length]? = some z := ⟨(a :: g')[g'.length], List.getElem?_eq_getElem _⟩
              have cz := HP.out _ z hz0
              have hzl : (a :: g').getLast? = some z := by rw [List.getLast?_eq_getElem?]; exact hz0
              have HZ := Aside0.mk hzl
              have hGl : G < wr.heap.size := own_lt HOW.out G rfl
              have ew3 : IntKind.i64.wrap (g'.length : Int) = (g'.length : Int) := Go.IntWalk.i64_in _ (by omega)
              have hiB : (g'.length : Int) < (g'.length : Int) + 1 := by omega
              have NA := Aside0.mk (blk_new wr (.cells #[.int .i32 (z.toNat : Int)] 21))
              have OWN : Aside0 ((wr.alloc (.cells #[.int .i32 (z.toNat : Int)] 21)).drew.ownsRow wr.heap.size 21 1 (.slice (some ⟨wr.heap.size, 0, none⟩) 1 1) 1 [.int .i32 (z.toNat : Int)]) := ⟨⟨rfl, Or.inr ⟨wr.heap.size, 1, #[.int .i32 (z.toNat : Int)], rfl, Nat.le_refl _, NA.out, Nat.le_refl _, by unfold maxLen; omega, rfl, rfl⟩⟩⟩
              obtain ⟨i0, hi0, hi1, hi2, hi3⟩ := infoR'
              clear hz0 hzl
              have hiA : i < m := by omega
              have hiC : (0 : Int) ≤ (i : Int) + 1 := by omega
              have hiD : (i : Int) + 1 < (m : Int) := by omega
              have d1a : (wr.alloc (.cells #[.int .i32 (z.toNat : Int)] 21)).cell? ⟨G, i + 1, none⟩ = some (.slice (some ⟨P', 0, none⟩) (h'.length + 1) cu') := by rw [blk_cell (blk_alloc DG.out _), ← blk_cell DG.out]; exact d1
              go_cut [] from 79 to 101 (fun wx => ∃ u2, Aside0 (Rws w.heap.size wx (.slice (some ⟨G, 0, none⟩) m c) (vs.set (i + 1) u2) ((done ++ (a :: g') :: (b :: h') :: r).set (i + 1) (z :: b :: h'))) ∧ Aside0 (wx.heap[E]? = some (.cells #[] 9 (0, 0))) ∧ Aside0 (Below w.heap.size w wx ∧ w.heap.size ≤ E ∧ w.heap.size ≤ wx.heap.size))
              case first =>
                go_region_law (refine step_append_lies (hgd := by rfl) (s := .tmp 94) (x := .tmp 99) (t := 32) (ho := by rfl) (base := wr.heap.size) (e := 21) (i := i0) (z := .int .i32 0) (size := 1) (bytes := 4) (ht := Tryd.underlying32) (hi := hi0) (hz := hi1) (hsize := hi2) (hby := hi3) (hzs := by rfl) (hsz := by decide) (v := .slice (some ⟨wr.heap.size, 0, none⟩) 1 1) (n := 1) (xs := [.int .i32 (z.toNat : Int)]) (hs := by first | rfl | simp [Act.eval, Act.put]) (hown := OWN.out) (ad := ⟨P', 0, none⟩) (m := h'.length + 1) (c := cu') (news := runeV (b :: h')) (hx := by first | rfl | simp [Act.eval, Act.put]) (hl := by simp [runeV, codes]) (hnews := ?c1) (h1 := ?c2) (hm := by omega) (h63 := ?c3) (hbytes := ?c4) (hbase := ?c5) (H := wr.heap.size + 1) (hH := ?c6) (h := ?_); (case c1 => exact news_row HRU'.out _); (case c2 => (intro u hu; obtain ⟨x, _, rfl⟩ := List.mem_map.1 hu; rfl)); (case c3 => (unfold maxLen; omega)); (case c4 => omega); (case c5 => simp); (case c6 => simp); intro gq cap w5 hown' hgrow _ _; have HO := Aside0.mk hown'; have HG := Aside0.mk hgrow; have hG5 := blk_grown (blk_drew (blk_alloc DG.out _)) hgrow (fun e => Nat.ne_of_lt hGl (Option.some.inj e)); have f5 : w5.frozen? ⟨G, i + 1, none⟩ = false := blk_frozen hG5 _; have d5 : w5.cell? ⟨G, i + 1, none⟩ = some (.slice (some ⟨P', 0, none⟩) (h'.length + 1) cu') := (by rw [blk_cell hG5, ← blk_cell DG.out]; exact d1); clear hown' hgrow hG5)
                all_goals
                  go_wp2
                  go_meet
                all_goals
                  obtain ⟨m1, m2, m3⟩ := moveIn HROW.out EQ.out.2.2.2.2 HU'.out HR.out.bW HO.out rfl HG.out
                  refine ⟨_, ⟨m1⟩, ⟨m3 _ _ HR.out.en ?_⟩, ⟨HR.out.bel.trans m2, HR.out.bE, Nat.le_trans HR.out.bW m2.size⟩⟩
                  intro e
                  have := HR.out.en
                  rw [e, DG.out] at this
                  simp at this
              case rest =>
                obtain ⟨u2, HR2, HE2, HB2⟩ := hcut
                have how2 := HR2.out.own
                rw [List.length_set, EQ.out.2.2.2.2] at how2
                have hu2 : (vs.set (i + 1) u2)[i]? = some (.slice (some ⟨P, 0, none⟩) (g'.length + 1) cu) := by rw [List.getElem?_set_ne (by omega)]; exact HU.out
                have hgu2 : ((done ++ (a :: g') :: (b :: h') :: r).set (i + 1) (z :: b :: h'))[i]? = some (a :: g') := by
                  rw [List.getElem?_set_ne (by omega), List.getElem?_append_right (by have := EQ.out.1; omega), EQ.out.1, Nat.sub_self]; rfl
                have hru2 := HR2.out.row i _ _ hu2 hgu2
                obtain ⟨d5, f5, _, cur5, dG5⟩ := own_at how2 hu2
                have hcu : g'.length + 1 ≤ cu := (own_at (i := 0) (x := .int .i32 (a.toNat : Int)) hru2 rfl).2.2.1
                have hcu2 : (g'.length : Int) ≤ (cu : Int) := by omega
                have hcu3 : g'.length ≤ cu := by omega
                have HRU2 := Aside0.mk hru2
                have HU2 := Aside0.mk hu2
                have HOW2 := Aside0.mk how2
                have DG5 := Aside0.mk dG5
                clear hru2 hu2 hgu2 how2 dG5 d0 f0 d1 f1 d1a c0 c1 cz OWN NA
                go_wp2
                go_region
                go_wp2
                go_roundg (gk - 1)
                case measure => have := HI.out; omega
                case rel =>
                  obtain ⟨e1, e2, e3, e4, e5⟩ := EQ.out
                  have hBG : w.heap.size ≤ G := own_base HOW2.out G rfl
                  have hp := HR2.out.put (W2 := wc) (g2 := (a :: g').dropLast) (by rw [List.length_set, e5]) HU2.out ⟨rfl, rfl, rfl, Nat.le_refl _, fun _ _ _ => rfl⟩ (HRU2.out.shrink (by simp)) (Or.inl rfl)
                  have es : ((done ++ (a :: g') :: (b :: h') :: r).set (i + 1) (z :: b :: h')).set i (a :: g').dropLast = done ++ (a :: g').dropLast :: (z :: b :: h') :: r := by
                    rw [List.set_append_right _ _ (by omega), List.set_append_right _ _ (by omega), e1, Nat.sub_self, show i + 1 - i = 1 by omega]
                    rfl
                  rw [es] at hp
                  have hGE : E ≠ G := by
                    intro e
                    have := HE2.out
                    rw [e, DG5.out] at this
                    simp at this
                  refine ⟨i + 1, ⟨by have := HI.out; omega⟩, by simp, ⟨L2.moved HZ.out e1 e2 e3 e4 e5 (hp.move (W' := (wc.setCell ⟨G, i, none⟩ (.slice (some ⟨P, 0, none⟩) g'.length cu)).drew) (fun _ _ => rfl)) HC.out ?_ ?_ HR.out.bE ?_⟩⟩
                  · exact blk_drew ((Below.heap_setCell _ _ _ _ hGE).trans HE2.out)
                  · exact below_drew1 (HB2.out.1.setCell (p := ⟨G, i, none⟩) hBG _)
                  · have := HB2.out.2.2; simp; omega
            · have q2 := C2.out
              rw [show (cls b == 1) = false from beq_eq_false_iff_ne.mpr k2] at q2
              have Q2 := Aside0.mk q2
              have hc : (upHead (a :: g') && loHead (b :: h')) = false := by
                show (cls a == 2 && cls b == 1) = false
                rw [beq_eq_false_iff_ne.mpr k2, Bool.and_false]
              have HC := Aside0.mk hc
              clear q2 k1 k2 hc
              go_wp2_with (first | ((go_at_call 12; with_reducible refine Q1.out.mono ?_); rintro e w' ⟨rfl, rfl⟩) | ((go_at_call 11; with_reducible refine Q2.out.mono ?_); rintro e w' ⟨rfl, rfl⟩))
              go_roundg (gk - 1)
              case measure => have := HI.out; omega
              case rel =>
                obtain ⟨e1, e2, e3, e4, e5⟩ := EQ.out
                exact ⟨i + 1, ⟨by have := HI.out; omega⟩, by simp, ⟨L2.skip e1 e2 e3 e4 e5 HROW.out HC.out HR.out⟩⟩
          · have q1 := C1.out
            rw [show (cls a == 2) = false from beq_eq_false_iff_ne.mpr k1] at q1
            have Q1 := Aside0.mk q1
            have hc : (upHead (a :: g') && loHead (b :: h')) = false := by
              show (cls a == 2 && cls b == 1) = false
              rw [beq_eq_false_iff_ne.mpr k1, Bool.false_and]
            have HC := Aside0.mk hc
            clear q1 k1 hc
            go_wp2_with ((go_at_call 12; with_reducible refine Q1.out.mono ?_); rintro e w' ⟨rfl, rfl⟩)
            go_roundg (gk - 1)
            case measure => have := HI.out; omega
            case rel =>
              obtain ⟨e1, e2, e3, e4, e5⟩ := EQ.out
              exact ⟨i + 1, ⟨by have := HI.out; omega⟩, by simp, ⟨L2.skip e1 e2 e3 e4 e5 HROW.out HC.out HR.out⟩⟩
        · have p1 : decide ((i : Int) < (m : Int) - 1) = false := decide_eq_false (by omega)
          obtain ⟨vs, done, rest, e1, e2, e3, e4, e5, hr⟩ := HR.out.rows
          have e6 : adj rest = rest := adj_one' rest (by rw [List.length_append] at e5; omega)
          rw [e6] at e2
          rw [e2] at hr
          have HRW := Aside0.mk hr
          clear hr e1 e2 e3 e4 e5 e6
          go_wp2
          go_meet
          case rel => exact ⟨vs, HRW, ⟨HR.out.en⟩, ⟨HR.out.bel, HR.out.bE, HR.out.bW⟩⟩
    case rest =>
      obtain ⟨vs, HR0, HE0, HB0⟩ := hcut
      obtain ⟨gs, hgs⟩ : ∃ gs, adj (groups s.data.toList) = gs := ⟨_, rfl⟩
      have hfl : gs.flatten = s.data.toList := by rw [← hgs, adj_flat _ _ rfl, groups_flat]
      have hcam : camel s.data.toList = gs.filter keepG := by unfold camel; rw [hgs]
      rw [hgs] at HR0
      have hmg : gs.length = m := by
        rcases HR0.out.own.2 with ⟨h1, h2⟩ | ⟨G, cap, cur, hv, _⟩
        · simp only [Value.slice.injEq] at h1
          omega
        · simp only [Value.slice.injEq] at hv
          omega
      have H3 : Aside0 (L3 w w.heap.size gs (.slice A m c) vs (.slice (some ⟨E, 0, none⟩) 0 0) 0 wc) := ⟨{ own := ⟨rfl, Or.inr ⟨E, 0, #[], rfl, HB0.out.2.1, HE0.out, Nat.le_refl _, by unfold maxLen; omega, rfl, rfl⟩⟩, rows := HR0.out, bel := HB0.out.1, bW := HB0.out.2.2 }⟩
      have HCAM := Aside0.mk hcam
      have HFL := Aside0.mk hfl
      have HMG := Aside0.mk hmg
      clear HR0 HE0 HB0 hgs hfl hcam hmg H2
      go_wp2_with (fail)
      go_loopg [2, 118] m (fun kq v2 v118 w' => ∃ j : Nat, Aside0 (j + kq = m) ∧ v118 = .int .i64 (j : Int) ∧ Aside0 (L3 w w.heap.size gs (.slice A m c) vs v2 j w'))
      case atStart => exact ⟨0, ⟨by omega⟩, rfl, H3⟩
      case round =>
        clear H3
        obtain ⟨j, HJ, rfl, HR⟩ := hrel
        by_cases hj : j < m
        · have p1 : decide ((j : Int) < (m : Int)) = true := decide_eq_true (by omega)
          have hr := HR.out.rows
          have hvl := hr.len
          rw [HMG.out] at hvl
          obtain ⟨g, hg⟩ : ∃ g, gs[j]? = some g := ⟨gs[j]'(by have := HMG.out; omega), List.getElem?_eq_getElem _⟩
          obtain ⟨u, hu⟩ : ∃ u, vs[j]? = some u := ⟨vs[j]'(by omega), List.getElem?_eq_getElem _⟩
          have hru := hr.row j u g hu hg
          have hmem : g ∈ gs := List.mem_of_getElem? hg
          have hsz : s.data.toList.length ≤ 1000000 := by have := size_list s; omega
          have hgl : g.length ≤ 1000000 := by have := flat_len hmem; rw [HFL.out] at this; omega
          have hga : ∀ b ∈ g, b.toNat < 128 := fun b hb => HS.out b (by rw [← HFL.out]; exact flat_mem hmem hb)
          have how := hr.own
          rw [HMG.out] at how
          obtain ⟨G, rfl⟩ : ∃ G, A = some ⟨G, 0, none⟩ := by
            rcases how.2 with ⟨h1, h2⟩ | ⟨G, cap, cur, hv, _⟩
            · omega
            · simp only [Value.slice.injEq] at hv
              exact ⟨G, hv.1⟩
          obtain ⟨d0, f0, dc, cur, dG⟩ := own_at how hu
          have hcv := own_run hru hga
          obtain ⟨A', cu, hu2⟩ := own_form hru
          subst hu2
          have htk : gs.take (j + 1) = gs.take j ++ [g] := by
            have hjl : j < gs.length := by have := HMG.out; omega
            rw [List.take_succ_eq_append_getElem hjl]
            rw [List.getElem?_eq_getElem hjl] at hg
            rw [Option.some.inj hg]
          have HTK := Aside0.mk htk
          obtain ⟨t, ht⟩ : ∃ t : ByteArray, (⟨g.toArray⟩ : ByteArray) = t := ⟨_, rfl⟩
          have htl : t.data.toList = g := by rw [← ht]
          have hSV : strV g = .string t := by unfold strV; rw [ht]
          have HSV := Aside0.mk hSV
          rw [ht] at hcv
          have hts : t.size = g.length := by rw [size_list, htl]
          have CT := Aside0.mk (Tryd.strings_TrimSpace t wr (by omega) (fun j b hb => hga b (by rw [← htl]; exact List.mem_of_getElem? hb)) (HT.out.on HR.out.bel).sp.here)
          have HTL := Aside0.mk htl
          have HGA := Aside0.mk hga
          clear hr how hru hu hg hmem hga dG htk ht htl hSV hts hvl
          go_upto_region 31 with (fail)
          go_cut [135] from 124 to 134 (fun v135 wx => v135 = .bool (keepG g) ∧ Aside0 (Below wr.heap.size wr wx))
          case first =>
            by_cases hg0 : g = []
            · have q1 : decide (0 < g.length) = false := by rw [hg0]; rfl
              have HK : Aside0 (keepG g = false) := ⟨by rw [hg0]; rfl⟩
              clear hg0
              go_wp2
              go_meet
              case rel => exact ⟨by rw [HK.out], ⟨Below.refl _ _⟩⟩
            · have q1 : decide (0 < g.length) = true := decide_eq_true (List.length_pos_iff.2 hg0)
              have HE0 : Aside0 (g.isEmpty = false) := ⟨by cases g with | nil => exact absurd rfl hg0 | cons a t => rfl⟩
              obtain ⟨y, hy⟩ : ∃ y : ByteArray, (⟨(Lib.trimSpace t.data.toList).toArray⟩ : ByteArray) = y := ⟨_, rfl⟩
              have hyl : y.data.toList = Lib.trimSpace g := by rw [← hy, HTL.out]
              have ct := CT.out
              rw [hy] at ct
              have CT2 := Aside0.mk ct
              clear hy ct hg0
              by_cases hy0 : Lib.trimSpace g = []
              · have q2 : y = ⟨#[]⟩ := by
                  rw [hy0] at hyl
                  apply bytes_ext
                  rw [hyl]
                have HK : Aside0 (keepG g = false) := ⟨by unfold keepG; rw [hy0, HE0.out]; rfl⟩
                subst q2
                clear hyl hy0
                go_wp2_with ((go_at_call 14; with_reducible refine CT2.out.mono ?_); rintro e w2 ⟨rfl, rfl⟩)
                go_meet
                case rel => exact ⟨by rw [HK.out], ⟨below_bytesWorld _ _ _⟩⟩
              · have q2 : y.data.toList ≠ [] := by rw [hyl]; exact hy0
                have q3 : (y == ⟨#[]⟩) = false := bytes_ne q2
                have q4 : (y != ⟨#[]⟩) = true := by rw [bne, q3]; rfl
                have q8 : y.toList.isEmpty = false := by rw [toList_data, List.isEmpty_eq_false_iff]; exact q2
                have HY0 : Aside0 ((Lib.trimSpace g).isEmpty = false) := ⟨by rw [List.isEmpty_eq_false_iff]; exact hy0⟩
                clear hyl hy0
                by_cases h95 : g = [95]
                · have q5 : t = ⟨#[95]⟩ := by
                    apply bytes_ext
                    rw [HTL.out, h95]
                  have HK : Aside0 (keepG g = false) := ⟨by unfold keepG; rw [h95]; rfl⟩
                  have q6 : (t != ⟨#[95]⟩) = false := by rw [q5, bne, bytes_eq]; rfl
                  have H95 := Aside0.mk h95
                  clear h95 q5
                  go_wp2_with ((go_at_call 14; with_reducible refine CT2.out.mono ?_); rintro e w2 ⟨rfl, rfl⟩)
                  go_meet
                  case rel => exact ⟨by rw [HK.out, toList_data, HTL.out, H95.out]; rfl, ⟨below_bytesWorld _ _ _⟩⟩
                · have HK : Aside0 (keepG g = true) := ⟨by unfold keepG; rw [HE0.out, HY0.out, (bne_iff_ne).2 h95]; rfl⟩
                  have q6 : (t != ⟨#[95]⟩) = true := by rw [bne, bytes_ne (by rw [HTL.out]; exact h95)]; rfl
                  have H95 := Aside0.mk h95
                  clear h95
                  go_wp2_with ((go_at_call 14; with_reducible refine CT2.out.mono ?_); rintro e w2 ⟨rfl, rfl⟩)
                  go_meet
                  case rel => exact ⟨by rw [HK.out, toList_data, HTL.out, beq_eq_false_iff_ne.mpr H95.out]; rfl, ⟨below_bytesWorld _ _ _⟩⟩
          case rest =>
            obtain ⟨rfl, HBC⟩ := hcut
            have R3 := Aside0.mk (HR.out.below HBC.out)
            obtain ⟨kb, hkb⟩ : ∃ kb, keepG g = kb := ⟨_, rfl⟩
            have HKB := Aside0.mk hkb
            clear d0 f0 CT hcv
            rw [hkb]
            clear hkb
            cases kb with
            | false =>
              go_wp2
              go_roundg (gk - 1)
              case measure => have := HJ.out; omega
              case rel =>
                have e : ((gs.take (j + 1)).filter keepG) = ((gs.take j).filter keepG) := by rw [HTK.out, List.filter_append, List.filter_cons, HKB.out]; simp
                exact ⟨j + 1, ⟨by have := HJ.out; omega⟩, by simp, ⟨{ own := by rw [e]; exact R3.out.own, rows := R3.out.rows, bel := R3.out.bel, bW := R3.out.bW }⟩⟩
            | true =>
              have hfl : ((gs.take j).filter keepG).length ≤ 1000000 := by
                have := List.length_filter_le keepG (gs.take j)
                have := List.length_take_le j gs
                omega
              obtain ⟨nf, hnf⟩ : ∃ nf, ((gs.take j).filter keepG).length = nf := ⟨_, rfl⟩
              have ho := R3.out.own
              rw [hnf] at ho hfl
              have HO2 := Aside0.mk ho
              have HNF := Aside0.mk hnf
              clear ho hnf
              go_wp2_with ((with_reducible refine gate_builtin (b := .append) (xs := #[.tmp 136, .tmp 138]) rfl ?_); at_builtin; refine print_append_cells (w0 := w) (W := wc) w.heap.size rfl (.tmp 136) (.tmp 138) 22 9 (.string ByteArray.empty) 1 16 rfl Tryd.underlying22 infoT rfl (by decide) (by decide) u2 nf (((gs.take j).filter keepG).map strV) [.string t] rfl ?aX rfl (one_val rfl) ?aO ?aB ?aS ?aL ?_; (case aX => first | rfl | simp [Act.eval, Act.put]); (case aO => exact HO2.out); (case aB => exact R3.out.bel); (case aS => exact R3.out.bW); (case aL => omega); intro v5 w5 ho hb hg hat; have HO := Aside0.mk ho; have HBB := Aside0.mk hb; have HG := Aside0.mk hg; clear ho hb hg hat)
              go_roundg (gk - 1)
              case measure => have := HJ.out; omega
              case rel =>
                have e : ((gs.take (j + 1)).filter keepG) = ((gs.take j).filter keepG) ++ [g] := by rw [HTK.out, List.filter_append, List.filter_cons, HKB.out]; simp
                refine ⟨j + 1, ⟨by have := HJ.out; omega⟩, by simp, ⟨{ own := ?_, rows := R3.out.rows.grow HO2.out HG.out, bel := HBB.out, bW := Nat.le_trans R3.out.bW HG.out.size }⟩⟩
                rw [e, List.map_append, List.length_append, HNF.out]
                show w5.ownsRow _ _ _ _ _ (_ ++ [strV g])
                rw [HSV.out]
                exact HO.out
        · have p1 : decide ((j : Int) < (m : Int)) = false := decide_eq_false (by omega)
          have hjm : j = m := by have := HJ.out; omega
          have how := HR.out.own
          rw [show gs.take j = gs by rw [hjm, ← HMG.out, List.take_length], ← HCAM.out] at how
          have HOW := Aside0.mk how
          clear how hjm
          go_wp2
          go_ret
          have how := HOW.out
          refine ⟨_, rfl, Kd.R_of_own (by simpa [List.map_map, encs, show strV = (fun x => Value.string ⟨x.toArray⟩) from rfl, Function.comp_def] using how) (fun _ _ => trivial), HR.out.bel⟩
end Go.Proofs.YtienokiifhcelaaDoor.Hand
