/- What list.ZzPrefix writes: the prefix of an item of a list of items of levels. -/
import Derived.Test.YthepbgakfkiliaaRHandListB
import Derived.Test.YthepbgakfkiliaaRHandListC
import Derived.Test.YthepbgakfkiliaaRHandListD
namespace Go.Proofs.YthepbgakfkiliaaR.Hand
open Go.RowKit Go.Proofs.YthepbgakfkiliaaRW.PrintWords Go.Proofs.YthepbgakfkiliaaR.Base
set_option linter.unusedVariables false
set_option linter.unusedSimpArgs false

def emp : ByteArray := ⟨#[]⟩
def lvItems (l : List Int) : List (Int × ByteArray) := l.map fun n => (n, emp)

theorem own_ne {w : World} {base : Nat} {e : TypeId} {size n : Nat} {v : Value} {xs : List Value} {k : Nat} {cs : Array Value} {t : TypeId} {f : Nat × Nat} (hown : w.ownsRow base e size v n xs) (hk : w.heap[k]? = some (.cells cs t f)) (hne : t ≠ e) : some k ≠ v.ownBlock := by
  rcases hown.2 with ⟨rfl, _⟩ | ⟨g, cap, cur, rfl, _, hh, _⟩
  · simp [Value.ownBlock]
  · intro e
    have e : k = g := by simpa [Value.ownBlock] using e
    exact blk_ne' hk hh hne e
theorem heap_size_alloc (w : World) (o : Obj) : (w.alloc o).heap.size = w.heap.size + 1 := by simp

set_option maxHeartbeats 8000000 in
set_option maxRecDepth 100000 in
theorem zzLevels (A0 : Option Addr) (c0 : Nat) (l0 : List Int) (st : Sty) (w : World) (hr0 : Kd.C (Kd.int .i64) w A0 l0.length l0) (hc0 : l0.length ≤ c0)
    (hl : l0.length ≤ 1000) (hlev : ∀ x ∈ l0, 0 ≤ x ∧ x ≤ 1000) (hp : st.pre.size ≤ 1000000) (hv : st.vert.size ≤ 1000000) (hnl : st.newline.size ≤ 2147483647) :
    Calls Try.prog 22 #[.slice A0 l0.length c0, .agg st.cells] w fun e w' => ∃ L S ap css v, e = .returned (.pointer (some ⟨L, 0, none⟩)) ∧ ListIn w' w'.heap.size L S ap (blanks st.vert) css 0 st v (lvItems l0) ∧ Below w.heap.size w w' := by
  obtain ⟨i0, hi0, hz0, hz1, hz2⟩ := infoP
  have HR0 := Aside0.mk hr0
  clear hr0 hc0
  have HSC : Aside0 (st.cells.size = 10) := ⟨rfl⟩
  unfold Sty.cells
  go_enter Try.func22, Try.ntmps22
  go_wp2
  obtain ⟨L, hLe⟩ : ∃ L, w.heap.size + 1 = L := ⟨_, rfl⟩
  have hwL : w.heap.size ≤ L := by omega
  have H0 : Aside0 ((((w.alloc (.cells #[.int .i64 st.fmt, .string st.single, .string st.top, .string st.first, .string st.middle, .string st.vert, .string st.bottom, .string st.newline, .string st.pre, .string st.name] 42)).alloc (.cells #[.int .i64 0, .string ⟨#[]⟩, .string ⟨#[]⟩, .slice none 0 0, .int .i64 0, .pointer (some ⟨w.heap.size, 0, none⟩)] 89))).heap[w.heap.size]? = some (.cells st.cells 42 (0, 0))) :=
    ⟨blk_alloc (heap_alloc_new w _) _⟩
  have H1 : Aside0 ((((w.alloc (.cells #[.int .i64 st.fmt, .string st.single, .string st.top, .string st.first, .string st.middle, .string st.vert, .string st.bottom, .string st.newline, .string st.pre, .string st.name] 42)).alloc (.cells #[.int .i64 0, .string ⟨#[]⟩, .string ⟨#[]⟩, .slice none 0 0, .int .i64 0, .pointer (some ⟨w.heap.size, 0, none⟩)] 89))).heap[L]? = some (.cells #[.int .i64 0, .string ⟨#[]⟩, .string ⟨#[]⟩, .slice none 0 0, .int .i64 0, .pointer (some ⟨w.heap.size, 0, none⟩)] 89 (0, 0))) :=
    ⟨by rw [← hLe, ← heap_size_alloc w (.cells #[.int .i64 st.fmt, .string st.single, .string st.top, .string st.first, .string st.middle, .string st.vert, .string st.bottom, .string st.newline, .string st.pre, .string st.name] 42)]; exact blk_new _ _⟩
  have B1 : Aside0 (Below w.heap.size w ((w.alloc (.cells #[.int .i64 st.fmt, .string st.single, .string st.top, .string st.first, .string st.middle, .string st.vert, .string st.bottom, .string st.newline, .string st.pre, .string st.name] 42)).alloc (.cells #[.int .i64 0, .string ⟨#[]⟩, .string ⟨#[]⟩, .slice none 0 0, .int .i64 0, .pointer (some ⟨w.heap.size, 0, none⟩)] 89))) :=
    ⟨below_alloc (below_alloc (Below.refl _ _) _) _⟩
  rw [hLe]
  generalize ((w.alloc (.cells #[.int .i64 st.fmt, .string st.single, .string st.top, .string st.first, .string st.middle, .string st.vert, .string st.bottom, .string st.newline, .string st.pre, .string st.name] 42)).alloc (.cells #[.int .i64 0, .string ⟨#[]⟩, .string ⟨#[]⟩, .slice none 0 0, .int .i64 0, .pointer (some ⟨w.heap.size, 0, none⟩)] 89)) = w1 at H0 H1 B1 ⊢
  clear hLe HSC
  go_loopg [12] l0.length (fun kq v12 w' => ∃ (i : Nat) (v : Value), v12 = .int .i64 (i : Int) ∧ Aside0 (i + kq = l0.length) ∧ Aside0 (ItemsOwn w' w.heap.size v (lvItems (l0.take i))) ∧ Aside0 (w'.heap[w.heap.size]? = some (.cells st.cells 42 (0, 0))) ∧ Aside0 (w'.heap[L]? = some (.cells #[.int .i64 0, .string ⟨#[]⟩, .string ⟨#[]⟩, v, .int .i64 0, .pointer (some ⟨w.heap.size, 0, none⟩)] 89 (0, 0))) ∧ Aside0 (Below w.heap.size w w'))
  case atStart => exact ⟨0, .slice none 0 0, rfl, ⟨by omega⟩, ⟨ItemsOwn.nil _ _⟩, H0, H1, B1⟩
  case round =>
    clear H0 H1 B1
    obtain ⟨i, v, rfl, HK, HI, H0, H1, HB⟩ := hrel
    by_cases hi : i < l0.length
    · obtain ⟨ad, e, hx⟩ := Kd.at_int HR0.out (i : Int) (by omega) (by omega)
      cases e
      obtain ⟨q, hq⟩ : ∃ q, rd l0 (i : Int) = q := ⟨_, rfl⟩
      rw [hq, Int.toNat_natCast] at hx
      have hq' : l0[i] = q := by rw [← hq]; simp [rd, List.getD, hi]
      have htk : lvItems (l0.take (i + 1)) = lvItems (l0.take i) ++ [(q, emp)] := by
        unfold lvItems
        rw [List.take_succ_eq_append_getElem hi, hq']
        simp
      have HTK := Aside0.mk htk
      have htl : (lvItems (l0.take i)).length = i := by unfold lvItems; simp; omega
      clear htk hq hq'
      replace hx := (HB.out.cell (World.block_lt_of_cell? w _ hx)).trans hx
      have p1 : decide ((i : Int) < (l0.length : Int)) = true := decide_eq_true (by omega)
      obtain ⟨ps, hpl, hown, hit⟩ := HI.out
      have OWN := Aside0.mk hown
      have IT := Aside0.mk hit
      generalize hxs : lvItems (l0.take i) = xs at htl HTK OWN IT hpl
      have c3 : wr.cell? ⟨L, 3, none⟩ = some v := by rw [blk_cell H1.out]; rfl
      have hBr := HB.out.size
      clear HI hown hit hxs
      go_wp2_with (at_builtin; refine wpList_append_own _ rfl (.tmp 20) (.tmp 24) 86 rfl w.heap.size 85 i0 (.pointer none) 1 8 Try.underlying86 hi0 hz0 hz1 hz2 rfl (by decide) v xs.length (ps.map ptr) rfl ((OWN.out.alloc _).alloc _) ⟨wr.heap.size + 1, 0, none⟩ 1 1 [ptr wr.heap.size] rfl rfl ?c1 ?c2 ?c3 ?c4 ?c5 ?_)
      case c1 =>
        intro j u hj
        match j, hj with
        | 0, hj =>
          simp at hj
          subst hj
          simp [Addr.add, ptr]
      case c2 => intro u hu; simp at hu; subst hu; rfl
      case c3 => unfold maxLen; omega
      case c4 => omega
      case c5 => simp; omega
      intro v' w2 hown' hgrow _
      have hLw : w2.heap[L]? = some (.cells #[.int .i64 0, .string ⟨#[]⟩, .string ⟨#[]⟩, v, .int .i64 0, .pointer (some ⟨w.heap.size, 0, none⟩)] 89 (0, 0)) := blk_grown (blk_alloc (blk_alloc H1.out _) _) hgrow (own_ne OWN.out H1.out neLP)
      have hSw : w2.heap[w.heap.size]? = some (.cells st.cells 42 (0, 0)) := blk_grown (blk_alloc (blk_alloc H0.out _) _) hgrow (own_ne OWN.out H0.out (by decide))
      have hit2 := ItemsOwn.snoc (x := (q, emp)) (p := wr.heap.size) hpl ((OWN.out.alloc _).alloc _) (fun i p x h1 h2 => ⟨(IT.out i p x h1 h2).1, blk_alloc (blk_alloc (IT.out i p x h1 h2).2 _) _⟩) (blk_alloc (blk_new wr (.cells #[.int .i64 q, .string ⟨#[]⟩] 84)) _) hBr (by rw [htl]; exact hown') hgrow
      have hb2 : Below w.heap.size w w2 := pw_below_grown (below_alloc (below_alloc HB.out _) _) _ (by simp; omega) hgrow (fun k hk => (OWN.out.lt k hk).1)
      obtain ⟨g, cap, rfl⟩ : ∃ g cap, v' = .slice (some ⟨g, 0, none⟩) (i + 1) cap := by
        rcases hown'.2 with ⟨_, h0⟩ | ⟨g, cap, cur, hv, _⟩
        · omega
        · exact ⟨g, cap, hv⟩
      have d3 : w2.cell? ⟨L, 3, none⟩ = some v := by rw [blk_cell hLw]; rfl
      have f3 : w2.frozen? ⟨L, 3, none⟩ = false := blk_frozen hLw 3
      have HIT2 := Aside0.mk hit2
      have HLW := Aside0.mk hLw
      have HSW := Aside0.mk hSw
      have HB2 := Aside0.mk hb2
      clear hit2 hLw hSw hb2 hown' hgrow OWN IT c3
      go_wp2
      go_roundg (gk - 1)
      case measure => have := HK.out; omega
      case rel => exact ⟨i + 1, _, by go_num, ⟨by have := HK.out; omega⟩, ⟨by rw [HTK.out]; exact HIT2.out.setFar HLW.out neLP neLI _ _⟩, ⟨blk_far HSW.out (blk_ne' HSW.out HLW.out (by decide)) _⟩, ⟨blk_put HLW.out 3 _ rfl⟩, ⟨below_set HB2.out hwL⟩⟩
    · have hin : i = l0.length := by have := HK.out; omega
      have p1 : decide ((i : Int) < (l0.length : Int)) = false := decide_eq_false (by omega)
      have HI2 := HI.out
      rw [hin, List.take_length] at HI2
      have HLI := Aside0.mk (show ListIn wr wr.heap.size L w.heap.size 0 ⟨#[]⟩ ⟨#[]⟩ 0 st v (lvItems l0) from ⟨blk_lt H1.out, blk_lt H0.out, H0.out, H1.out, HI2.toIn (Nat.le_refl _)⟩)
      have hx1 : (lvItems l0).length ≤ 1000 := by simpa [lvItems] using hl
      have hx2 : ∀ x ∈ lvItems l0, 0 ≤ x.1 ∧ x.1 ≤ 1000 ∧ x.2.size ≤ 1000000 := by
        intro x hx
        obtain ⟨y, hy, rfl⟩ := List.mem_map.1 hx
        exact ⟨(hlev y hy).1, (hlev y hy).2, by show emp.size ≤ _; decide⟩
      have HX2 := Aside0.mk hx2
      clear HI HI2 hx2 hlev hin
      go_wp2_with (go_at_call 29; refine (initForRender wr wr.heap.size L w.heap.size 0 ⟨#[]⟩ ⟨#[]⟩ 0 st v (lvItems l0) HLI.out hx1 HX2.out hp hv hnl w.heap.size hwL HB.out.size).mono ?_; rintro e w3 ⟨rfl, ap, css, _, _, h3, b3⟩)
      have H3 := Aside0.mk h3
      have B3 := Aside0.mk b3
      clear h3 b3
      go_wp2
      go_ret
      exact ⟨L, w.heap.size, ap, css, v, rfl, H3.out.mono B3.out.size, HB.out.trans B3.out⟩

/-- What stands ahead of an item's bullet. -/
def prefixOf (l : List Int) (place : Nat) (pre vert : ByteArray) : ByteArray := ⟨(prefL pre.data.toList vert.data.toList (blanks vert).data.toList (l.drop (place + 1)) (l.getD place 0).toNat).toArray⟩
def list_ZzPrefix.f (l0 : List Int) (a1 : Int) (s0 : Int) (s1 s2 s3 s4 s5 s6 s7 s8 s9 : ByteArray) : Option ByteArray :=
  if (l0.length ≤ 1000 ∧ ∀ x ∈ l0, 0 ≤ x ∧ x ≤ 1000) ∧ s8.size ≤ 1000000 ∧ s5.size ≤ 1000000 ∧ s7.size ≤ 2147483647 ∧ 0 ≤ a1 ∧ a1 < (l0.length : Int) then some (prefixOf l0 a1.toNat s8 s5) else none

theorem lvs_items (l : List Int) (k : Nat) : lvs (lvItems l) k = l.drop k := by
  unfold lvs lvItems
  rw [← List.map_drop, List.map_map]
  exact List.map_id _
theorem blanks_size (s : ByteArray) : (blanks s).size = Lib.runeCount s := by
  rw [size_list]
  show (Lib.repeatL [32] _).length = _
  rw [Lib.repeatL_length]
  simp

set_option maxHeartbeats 8000000 in
set_option maxRecDepth 100000 in
theorem list_ZzPrefix.calls (A0 : Option Addr) (c0 : Nat) (l0 : List Int) (a1 : Int) (s0 : Int) (s1 s2 s3 s4 s5 s6 s7 s8 s9 : ByteArray) (r : ByteArray) (w : World) (hr0 : Kd.C (Kd.int .i64) w A0 l0.length l0) (hc0 : l0.length ≤ c0)
    (h : list_ZzPrefix.f l0 a1 s0 s1 s2 s3 s4 s5 s6 s7 s8 s9 = some r) :
    Calls Try.prog 15 #[.slice A0 l0.length c0, .int .i64 a1, .agg #[.int .i64 s0, .string s1, .string s2, .string s3, .string s4, .string s5, .string s6, .string s7, .string s8, .string s9]] w fun e w' => e = .returned (.string r) ∧ Below w.heap.size w w' := by
  unfold list_ZzPrefix.f at h
  split at h
  case isFalse => cases h
  rename_i hz
  obtain rfl := Option.some.inj h
  obtain ⟨⟨hl, hlev⟩, h8, h5, h7, ha0, ha1⟩ := hz
  obtain ⟨at_, rfl⟩ := Int.eq_ofNat_of_zero_le ha0
  have hatl : at_ < l0.length := by omega
  have HR0 := Aside0.mk hr0
  have HLEV := Aside0.mk hlev
  have hbz := blanks_size s5
  have hrv := rc_le s5
  obtain ⟨n, hn⟩ : ∃ n : Int, l0[at_] = n := ⟨_, rfl⟩
  have hn1 := hlev l0[at_] (List.getElem_mem hatl)
  rw [hn] at hn1
  have HN := Aside0.mk hn
  have ST : ∃ st : Sty, st = ⟨s0, s1, s2, s3, s4, s5, s6, s7, s8, s9⟩ := ⟨_, rfl⟩
  clear hr0 hlev hn h
  go_enter Try.func15, Try.ntmps15
  go_upto_region 2 with (go_at_call 22; refine (zzLevels A0 c0 l0 ⟨s0, s1, s2, s3, s4, s5, s6, s7, s8, s9⟩ _ (Kd.C_below HR0.out (below_alloc (Below.refl _ _) _)) hc0 hl HLEV.out h8 h5 h7).mono ?_; rintro e w1 ⟨L, S, ap, css, v, rfl, h1, b1⟩)
  have B1 : Below w.heap.size w w1 := (below_alloc (Below.refl _ _) _).trans (b1.mono (by simp))
  have H1 := Aside0.mk h1
  have BB1 := Aside0.mk B1
  clear h1 b1 B1 HR0 HLEV
  go_upto_region 3 with (fail)
  have H2 := Aside0.mk (H1.out.grow (below_alloc (Below.refl _ _) (.cells #[.pointer none, .slice none 0 0] 81)))
  have I2 : Aside0 (Lib.IsBuilderF 81 5 w1.heap.size w1.heap.size (Lib.byteCells []) (w1.alloc (.cells #[.pointer none, .slice none 0 0] 81))) := by
    rcases Lib.fresh_isBuilder 81 5 w1 with h | h
    · exact ⟨Or.inl (Lib.BuilderAtF.of h)⟩
    · exact ⟨Or.inr (Lib.BuilderAtF.of h)⟩
  have B2 := Aside0.mk (below_alloc BB1.out (.cells #[.pointer none, .slice none 0 0] 81))
  have hsz : w1.heap.size ≤ (w1.alloc (.cells #[.pointer none, .slice none 0 0] 81)).heap.size := by simp
  have hsw : w.heap.size ≤ w1.heap.size := BB1.out.size
  obtain ⟨b, hbe⟩ : ∃ b, w1.heap.size = b := ⟨_, rfl⟩
  rw [hbe] at H2 I2 hsz hsw ⊢
  generalize (w1.alloc (.cells #[.pointer none, .slice none 0 0] 81)) = w2 at H2 I2 B2 hsz ⊢
  clear H1 BB1 hbe
  obtain ⟨_, _, _, hL, ao, c, rfl, hrows⟩ := H2.out
  have hlen : (lvItems l0).length = l0.length := by simp [lvItems]
  obtain ⟨a, cur, fz, rfl, haB, hrow, hrows⟩ := hrows (by omega)
  obtain ⟨p, hpB, hcr, hpx⟩ := hrows at_ (n, emp) (by simp [lvItems, List.getElem?_eq_getElem hatl, HN.out])
  have hc3 : w2.cell? ⟨L, 3, none⟩ = some (.slice (some ⟨a, 0, none⟩) l0.length c) := by rw [blk_cell hL, ← hlen]; rfl
  have hca : w2.cell? ⟨a, at_, none⟩ = some (.pointer (some ⟨p, 0, none⟩)) := by rw [Lib.cell_of_heap hrow]; exact hcr
  have hp0 : w2.cell? ⟨p, 0, none⟩ = some (.int .i64 n) := by rw [blk_cell hpx]; rfl
  obtain ⟨m, rfl⟩ := Int.eq_ofNat_of_zero_le hn1.1
  have HLEN := Aside0.mk hlen
  have hm : m ≤ 100000 := by omega
  have hx1 : (lvItems l0).length ≤ 1000000000 := by omega
  have hat2 : at_ ≤ 1000000000 := by omega
  have hbz2 : (blanks s5).size ≤ 1000000 := by omega
  clear hrow hrows hcr hpx hL hlen hbz hrv
  go_wp2_with (first
    | (go_at_call 23; refine (renderPrefix w2 b L S b ap (blanks s5) css 0 ⟨s0, s1, s2, s3, s4, s5, s6, s7, s8, s9⟩ _ (lvItems l0) H2.out [] I2.out hsz at_ m hx1 hat2 hm h8 h5 hbz2 (by simp)).mono ?_; rintro e w3 ⟨rfl, I3, b3⟩; have I3' := Aside0.mk I3; have B3 := Aside0.mk (B2.out.trans (b3.mono hsw)); have hs3 := Nat.le_trans hsz b3.size; clear I3 b3)
    | (go_at_call 24; refine (Try.Builder_String_any_k b b _ w3 I3'.out hs3).mono ?_; rintro e w4 ⟨rfl, _, b4, _⟩))
  go_ret
  refine ⟨ret_str (bytes_ext ?_), B3.out.trans (b4.mono hsw)⟩
  unfold prefixOf
  rw [lvs_items]
  simp [List.getD, List.getElem?_eq_getElem hatl, HN.out]
end Go.Proofs.YthepbgakfkiliaaR.Hand
